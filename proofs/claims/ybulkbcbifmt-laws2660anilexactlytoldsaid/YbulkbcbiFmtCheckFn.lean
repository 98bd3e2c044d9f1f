/-
  OWN TEXT. checkEmpty (6) by a contract.
-/
import Derived.Test.YbulkbcbiFmtErrorf
import Derived.Lib.Hide
import Derived.Deep.RegionWith
import Derived.BigRegion
namespace Go.Proofs.YbulkbcbiFmt
open Go.ChangeShapes Go.WideShapes Go.ChangeAt Go.RowKit
/-- A row of strings from an address on. -/
def Strs (w : World) (b o m : Nat) (f : Nat → ByteArray) : Prop := ∀ j, j < m → w.cell? ⟨b, o + j, none⟩ = some (.string (f j))
/-- A row of places from an address on, each in range. -/
def Places (w : World) (b o n m : Nat) (g : Nat → Nat) : Prop := ∀ j, j < n → w.cell? ⟨b, o + j, none⟩ = some (.int .i64 (g j)) ∧ g j < m ∧ g j < 6
/-- The header: a slice of six strings. -/
def Head (w : World) : Prop := ∃ (b o : Nat) (h : Nat → ByteArray), w.cell? ⟨0, 0, none⟩ = some (.slice (some ⟨b, o, none⟩) 6 6) ∧ Strs w b o 6 h
theorem some_byte (s : ByteArray) (h : s ≠ ⟨#[]⟩) : s.toList.isEmpty = false := by
  obtain ⟨⟨l⟩⟩ := s
  rw [show (ByteArray.mk { toList := l }) = ByteArray.mk l.toArray from rfl, ByteArray.toList_mk]
  cases l with
  | nil => exact absurd rfl h
  | cons a b => rfl
theorem through {w w' : World} {o : Obj} (h : Below (w.alloc o).drew.heap.size (w.alloc o).drew w') : Below w.heap.size w w' :=
  (((Below.refl _ w).alloc (Nat.le_refl _) o).drew).trans ⟨h.os, h.tape, h.output, h.size, fun k hk => h.block k (by
    show k < (w.heap.push o).size
    rw [Array.size_push]; omega)⟩
set_option maxHeartbeats 1000000 in
theorem check_some (fb fo m fc pb po n pc : Nat) (f : Nat → ByteArray) (g : Nat → Nat) (kd : ByteArray) (w : World) (hn : n ≤ 1024) (hf : Strs w fb fo m f) (hp : Places w pb po n m g) (hh : Head w) :
    Calls Ybaf.prog 6 #[.slice (some ⟨fb, fo, none⟩) m fc, .string kd, .slice (some ⟨pb, po, none⟩) n pc] w fun e w' =>
      ((e = .returned .nilIface ∧ ∀ j, j < n → f (g j) = ⟨#[]⟩) ∨ (∃ p, e = .returned (.iface 36 p) ∧ ∃ j, j < n ∧ f (g j) ≠ ⟨#[]⟩)) ∧ Below w.heap.size w w' := by
  have HF := Lib.hid hf
  have HP := Lib.hid hp
  have HH := Lib.hid hh
  clear hf hp hh
  go_enter Ybaf.func6, Ybaf.ntmps6
  go_wp2
  go_loop [11] (fun b => ∃ k : Nat, k ≤ n ∧ b = .int .i64 k ∧ ∀ j, j < k → f (g j) = ⟨#[]⟩) (fun b => n - (intOf b).toNat)
  case atStart => exact ⟨0, Nat.zero_le _, rfl, fun j hj => absurd hj (by omega)⟩
  case round =>
    obtain ⟨k, hk, rfl, hrel⟩ := hrel
    have HR := Lib.hid hrel
    clear hrel
    by_cases hlt : k < n
    · obtain ⟨c1, c2, c3⟩ := HP.out k hlt
      have c4 := HF.out (g k) c2
      by_cases he : f (g k) = ⟨#[]⟩
      · have HE := Lib.hid he
        rw [he] at c4
        clear he
        go_wp2
        go_round
        case rel => 
          refine ⟨k + 1, by omega, by go_num, fun j hj => ?_⟩
          by_cases h1 : j = k
          · rw [h1]; exact HE.out
          · exact HR.out j (by omega)
        case measure => simp [intOf]; omega
      · have he' := some_byte _ he
        obtain ⟨hb, ho, h, h0, hs⟩ := HH.out
        have c5 := hs (g k) c3
        have HE := Lib.hid he
        clear he hs
        go_wp2_with fail
        clear HF HP HH HR
        go_region_with (go_at_call 7; refine (errorf_three kd (h (g k)) (f (g k)) w.heap.size _ (by go_simp) (by go_simp) (by go_simp)).mono ?_; rintro e w' ⟨p, rfl, hb⟩)
        all_goals
          have HB := Lib.hid hb
          clear hb
          go_wp2
          go_ret
          refine ⟨Or.inr ⟨_, rfl, k, hlt, HE.out⟩, ?_⟩
          exact through HB.out
    · obtain rfl : k = n := by omega
      go_wp2
      go_ret
      exact ⟨Or.inl ⟨rfl, HR.out⟩, Below.refl _ _⟩
end Go.Proofs.YbulkbcbiFmt
