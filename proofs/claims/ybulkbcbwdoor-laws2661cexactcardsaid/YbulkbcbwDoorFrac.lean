/-
  OWN TEXT. fractionBits (5) by a contract.
-/
import Derived.Test.YbulkbcbwDoorDigits
import Derived.Test.YbulkbcbwDoorDiv
import Derived.Deep.RegionWith
import Derived.BigRegion
namespace Go.Proofs.YbulkbcbwDoor
open Go.ChangeShapes Go.WideShapes Go.ChangeAt Go.RowKit
def strOf' : Value → ByteArray
  | .string s => s
  | _ => ByteArray.empty
/-- The powers of ten, as they lie. -/
def Tens (w : World) : Prop := ∀ k, k < 20 → w.cell? ⟨0, k, none⟩ = some (.int .u64 (10 ^ k : Nat))
theorem Tens.below {w w' : World} (h : Tens w) (hb : Below w.heap.size w w') : Tens w' := fun k hk => (hb.cell (block_lt_of_cell (h k hk))).trans (h k hk)
theorem below_more {B : Nat} {w w' : World} (h : Below w.heap.size w w') (hB : B ≤ w.heap.size) : Below B w w' := ⟨h.os, h.tape, h.output, h.size, fun k hk => h.block k (by omega)⟩
theorem below_drawn {B : Nat} {w w' : World} (h : Below w.drew.heap.size w.drew w') (hB : B ≤ w.heap.size) : Below B w w' := ⟨h.os, h.tape, h.output, h.size, fun k hk => h.block k (Nat.lt_of_lt_of_le hk hB)⟩
/-- The first 64 bits of the fraction of n digits from the m-th on. -/
def Fr (f : Nat → Nat) (m k : Nat) : Nat := V f m k * 18446744073709551616 / 10 ^ k
theorem Fr_lt (f : Nat → Nat) (hf : ∀ j, f j < 10) (m k : Nat) : Fr f m k < 18446744073709551616 := by
  unfold Fr
  rw [Nat.div_lt_iff_lt_mul (Nat.pow_pos (by omega))]
  have := V_lt f hf m k
  rw [Nat.mul_comm]
  exact Nat.mul_lt_mul_of_pos_left this (by omega)
theorem Fr_step (f : Nat → Nat) (m j k : Nat) : (V f m j * 18446744073709551616 + Fr f (m + j) k) / 10 ^ j = Fr f m (j + k) := by
  unfold Fr
  rw [V_join, Nat.pow_add, Nat.mul_comm (10 ^ j) (10 ^ k), ← Nat.div_div_eq_div_mul]
  congr 1
  rw [Nat.add_mul, Nat.mul_right_comm, Nat.mul_comm _ (10 ^ k), Nat.mul_add_div (Nat.pow_pos (by omega))]
theorem dig_ext (p : ByteArray) (f : Nat → Nat) (hd : IsDig p f) (a b : Nat) (hb : b ≤ p.size) : IsDig (p.extract a b) (fun j => f (a + j)) := by
  intro j hj
  have hs : (p.extract a b).size = b - a := by simp; omega
  have h1 : a + j < p.size := by omega
  rw [ByteArray.getElem_extract]
  exact hd (a + j) h1
set_option maxHeartbeats 1000000 in
theorem frac_of (s : ByteArray) (f : Nat → Nat) (hs : s.size ≤ 1024) (hd : IsDig s f) (hf : ∀ j, f j < 10) (w : World) (ht : Tens w) :
    Calls Ybad.prog 5 #[.string s] w fun e w' => e = .returned (.int .u64 (Fr f 0 s.size)) ∧ Below w.heap.size w w' := by
  have HD := Lib.hid hd
  have HF := Lib.hid hf
  have HT := Lib.hid ht
  clear hd hf ht
  go_enter Ybad.func5, Ybad.ntmps5
  go_wp2
  go_loopw [0, 3] (fun a b wr => ∃ p : ByteArray, a = .string p ∧ p.size ≤ s.size ∧ IsDig p f ∧ b = .int .u64 (Fr f p.size (s.size - p.size)) ∧ Below w.heap.size w wr) (fun a _ _ => (strOf' a).size)
  case atStart =>
    refine ⟨s, rfl, Nat.le_refl _, HD.out, ?_, Below.refl _ _⟩
    rw [Nat.sub_self]
    simp [Fr, V]
  case round =>
    obtain ⟨p, rfl, hp, hdp, rfl, hb⟩ := hrel
    have HP := Lib.hid hdp
    have HB := Lib.hid hb
    clear hdp hb
    by_cases h0 : 0 < p.size
    · obtain ⟨k, hk⟩ : ∃ k, (p.size - 1) % 19 + 1 = k := ⟨_, rfl⟩
      have hk1 : k ≤ p.size := by omega
      have hk2 : k ≤ 19 := by omega
      have hki : ((p.size : Int) - 1) % 19 + 1 = (k : Int) := by omega
      have hgs : (p.extract (p.size - k) p.size).size = k := by simp; omega
      have HG := Lib.hid (dig_ext p f HP.out (p.size - k) p.size (Nat.le_refl _))
      have hps : (p.extract 0 (p.size - k)).size = p.size - k := by simp
      have HPre : Hid (IsDig (p.extract 0 (p.size - k)) f) := by
        have := dig_ext p f HP.out 0 (p.size - k) (by omega)
        show IsDig _ _
        simpa using this
      go_wp2_with fail
      generalize p.extract (p.size - k) p.size = grp at *
      generalize p.extract 0 (p.size - k) = pre at *
      obtain ⟨vv, hvv⟩ : ∃ vv, V f (p.size - k) k = vv := ⟨_, rfl⟩
      have hvl : vv < 10 ^ k := by rw [← hvv]; exact V_lt f HF.out _ _
      have htk : 10 ^ k < 18446744073709551616 := by have := pow_small k hk2; omega
      have HVal : Hid (∀ w, Calls Ybad.prog 9 #[.string grp] w fun e w' => e = .returned (.int .u64 vv) ∧ w = w') := by
        intro w
        have := value_of grp _ (by omega) HG.out (fun j => HF.out _) w
        rw [hgs, V_shift, hvv] at this
        exact this
      have hcell := (HT.out.below HB.out) k (by omega)
      have htt : Fr f p.size (s.size - p.size) < 18446744073709551616 := Fr_lt f HF.out _ _
      have HStep : Hid ((vv * 18446744073709551616 + Fr f p.size (s.size - p.size)) / 10 ^ k = Fr f pre.size (s.size - pre.size)) := by
        have := Fr_step f (p.size - k) k (s.size - p.size)
        rw [hvv, show p.size - k + k = p.size by omega, show k + (s.size - p.size) = s.size - (p.size - k) by omega] at this
        rw [hps]
        exact this
      clear hvv HG HP
      generalize Fr f p.size (s.size - p.size) = tt at *
      generalize 10 ^ k = tk at *
      go_region_with (first | (go_at_call 9; refine (HVal.out _).mono ?_; rintro e w' ⟨rfl, rfl⟩) | (go_at_call 8; refine (div_all vv tt tk hvl htk htt _).mono ?_; rintro e w' ⟨rm, rfl, hb⟩))
      all_goals
        have HB2 := Lib.hid hb
        clear hb
        go_simp
        refine ⟨?_, ?measure⟩
        · show Exists _
          (repeat apply Exists.intro)
          refine ⟨?_, rfl⟩
          refine ⟨pre, rfl, by omega, HPre.out, ?_, ?_⟩
          · rw [← HStep.out]
            simp
          · exact HB.out.trans (below_drawn HB2.out HB.out.size)
        case measure => simp [strOf']; omega
    · obtain hp0 : p.size = 0 := by omega
      go_wp2
      go_ret
      refine ⟨?_, HB.out⟩
      rw [hp0]
      rfl
end Go.Proofs.YbulkbcbwDoor
