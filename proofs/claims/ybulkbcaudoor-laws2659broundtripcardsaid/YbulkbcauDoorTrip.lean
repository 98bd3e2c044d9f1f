/-
  OWN TEXT. The round trip's law (4).
-/
import Derived.Test.YbulkbcauDoorPlain
namespace Go.Proofs.YbulkbcauDoor
open Go.ChangeShapes Go.WideShapes Go.ChangeAt Go.RowKit
theorem tab_below {w w' : World} {name : String} {k : IntKind} {zs : List Int} (h : Lib.TabIs Ybad.prog w name k zs) (hb : Below w.heap.size w w') : Lib.TabIs Ybad.prog w' name k zs := by
  unfold Lib.TabIs World.var? at *
  cases hg : Ybad.prog.globalNamed name with
  | none => simp [hg] at h
  | some g =>
    simp only [hg, Option.bind_some] at h ⊢
    have hlt : g < w.heap.size := by
      by_cases hl : g < w.heap.size
      · exact hl
      · rw [Array.getElem?_eq_none (by omega)] at h; cases h
    rw [hb.block g hlt]
    exact h
theorem below_more {B : Nat} {w w' : World} (h : Below w.heap.size w w') (hB : B ≤ w.heap.size) : Below B w w' := ⟨h.os, h.tape, h.output, h.size, fun k hk => h.block k (by omega)⟩
set_option maxHeartbeats 400000 in
theorem trip_long (nm : ByteArray) (n z : Int) (w : World) (h : 1024 < nm.size) :
    Calls Ybad.prog 4 #[.string nm, .int .u64 n, .int .u8 z] w fun e w' => e = .returned (.bool true) ∧ Below w.heap.size w w' := by
  go_enter Ybad.func4, Ybad.ntmps4
  go_wp2
  go_ret
  exact ⟨rfl, Below.refl _ _⟩
set_option maxHeartbeats 400000 in
theorem trip_some (nm : ByteArray) (n z : Nat) (hn : n < 18446744073709551616) (hz : z < 256) (w : World) (h : ¬ 1024 < nm.size) (htab : Lib.TabIs Ybad.prog w Ybad.powName .u64 Lib.pow10Tab) :
    Calls Ybad.prog 4 #[.string nm, .int .u64 n, .int .u8 z] w fun e w' => e = .returned (.bool true) ∧ Below w.heap.size w w' := by
  have HT := Lib.hid htab
  clear htab
  go_enter Ybad.func4, Ybad.ntmps4
  go_wp2_with fail
  refine (Ybad.strings_Repeat _ (z % 4) _ (by omega) ?_).mono ?_
  · show 1 * (z % 4) ≤ _
    omega
  rintro e w1 ⟨rfl, hb1⟩
  have HB1 := Lib.hid hb1
  clear hb1
  obtain ⟨r, hr, HR, hrs⟩ : ∃ r : ByteArray, (⟨(Lib.repeatL [48] (z % 4)).toArray⟩ : ByteArray) = r ∧ Hid (r.data.toList = Lib.repeatL [48] (z % 4)) ∧ r.size ≤ 3 := ⟨_, rfl, rfl, by
    show (Lib.repeatL [48] (z % 4)).length ≤ 3
    rw [Lib.repeatL_length]; simp; omega⟩
  have hr' : (⟨(Lib.repeatL (⟨#[48]⟩ : ByteArray).data.toList (z % 4)).toArray⟩ : ByteArray) = r := hr
  rw [hr']
  clear hr hr'
  go_wp2_with fail
  refine (fmt_uint n hn _ (tab_below HT.out HB1.out)).mono ?_
  rintro e w2 ⟨rfl, hb2⟩
  have HB2 := Lib.hid hb2
  clear hb2
  obtain ⟨d, hd, HD, hds⟩ : ∃ d : ByteArray, (⟨(Lib.decDigits n).toArray⟩ : ByteArray) = d ∧ Hid (d.data.toList = Lib.decDigits n) ∧ d.size ≤ 20 := ⟨_, rfl, rfl, by
    show (Lib.decDigits n).length ≤ 20
    rw [Lib.decDigits_length]
    by_cases h0 : n < 1
    · obtain rfl : n = 0 := by omega
      have h1 := Lib.decDigits_length 0
      rw [Lib.decDigits_one (by omega)] at h1
      simp at h1
      omega
    · have := Lib.numDigits_eq n (by omega) hn; split at this <;> omega⟩
  rw [hd]
  clear hd
  have HP : Hid ((nm ++ ⟨#[95]⟩ ++ r ++ d).data.toList = nm.data.toList ++ 95 :: tailOf (z % 4) n) := by
    show _ = _
    unfold tailOf
    rw [← HR.out, ← HD.out]
    simp
  have hps : (nm ++ ⟨#[95]⟩ ++ r ++ d).size ≤ 2000 := by
    have h1 : (⟨#[95]⟩ : ByteArray).size = 1 := rfl
    simp only [ByteArray.size_append, h1]
    omega
  go_wp2_with fail
  generalize nm ++ ⟨#[95]⟩ ++ r ++ d = p at *
  have HL : Hid (Lib.lastIndexByte p 95 = nm.size) := last_at p nm _ HP.out (tail_digits _ _)
  by_cases h0 : nm.size = 0
  · obtain rfl : nm = ⟨#[]⟩ := ba_ext _ _ (List.eq_nil_of_length_eq_zero h0)
    refine (res_low p hps _ (by rw [HL.out]; exact Int.le_refl _)).mono ?_
    rintro e w' ⟨rfl, rfl⟩
    go_wp2
    go_ret
    exact ⟨rfl, HB1.out.trans (below_more HB2.out HB1.out.size)⟩
  · have hlt : nm.size < p.size := by
      have h1 : p.data.toList.length = nm.data.toList.length + ((tailOf (z % 4) n).length + 1) := by rw [HP.out, List.length_append, List.length_cons]
      have e1 : p.data.toList.length = p.size := rfl
      have e2 : nm.data.toList.length = nm.size := rfl
      omega
    have hne : nm.toList.isEmpty = false := by
      obtain ⟨⟨l⟩⟩ := nm
      rw [show (ByteArray.mk { toList := l }) = ByteArray.mk l.toArray from rfl, ByteArray.toList_mk]
      cases l with
      | nil => exact absurd rfl h0
      | cons a b => rfl
    refine (res_ok p hps _ nm.size n (by omega) hlt HL.out (by rw [tail_of p nm _ HP.out]; exact tail_parse _ _ (by omega))).mono ?_
    rintro e w3 ⟨rfl, hb3⟩
    have HB3 := Lib.hid hb3
    clear hb3
    rw [head_of p nm _ HP.out]
    go_wp2
    go_ret
    have hb := HB1.out.trans (below_more HB2.out HB1.out.size)
    exact ⟨rfl, hb.trans (below_more HB3.out hb.size)⟩
end Go.Proofs.YbulkbcauDoor
