/-
  OWN TEXT. The law (3), and the statement's own frame.
-/
import Derived.Test.YbulkbcauDoorModelFn
namespace Go.Proofs.YbulkbcauDoor
open Go.ChangeShapes Go.WideShapes Go.ChangeAt Go.RowKit
theorem last_lt (s : ByteArray) (c : Int) (k : Nat) : Lib.lastIdx s c k < k := by
  induction k with
  | zero => unfold Lib.lastIdx; omega
  | succ k ih =>
    by_cases h : ((s.data[k]!).toNat : Int) = c
    · rw [Lib.lastIdx_hit s c k h]; omega
    · rw [Lib.lastIdx_miss s c k h]; omega
set_option maxHeartbeats 400000 in
theorem law_long (s : ByteArray) (w : World) (h : 1024 < s.size) :
    Calls Ybad.prog 3 #[.string s] w fun e w' => e = .returned (.bool true) ∧ Below w.heap.size w w' := by
  go_enter Ybad.func3, Ybad.ntmps3
  go_wp2
  go_ret
  exact ⟨rfl, Below.refl _ _⟩
set_option maxHeartbeats 400000 in
theorem law_low (s : ByteArray) (w : World) (h : ¬ 1024 < s.size) (hl : Lib.lastIndexByte s 95 ≤ 0) :
    Calls Ybad.prog 3 #[.string s] w fun e w' => e = .returned (.bool true) ∧ Below w.heap.size w w' := by
  have H : Hid (Lib.lastIndexByte s 95 ≤ 0) := hl
  clear hl
  go_enter Ybad.func3, Ybad.ntmps3
  go_wp2_with fail
  refine (res_low s (by omega) _ H.out).mono ?_
  rintro e w' ⟨rfl, rfl⟩
  go_wp2_with fail
  refine (model_low s (by omega) _ H.out).mono ?_
  rintro e w' ⟨rfl, rfl⟩
  go_wp2
  go_ret
  exact ⟨rfl, Below.refl _ _⟩
set_option maxHeartbeats 400000 in
theorem law_high (s : ByteArray) (w : World) (h : ¬ 1024 < s.size) (hl : ¬ Lib.lastIndexByte s 95 ≤ 0) (he : ErrsLie w) :
    Calls Ybad.prog 3 #[.string s] w fun e w' => e = .returned (.bool true) ∧ Below w.heap.size w w' := by
  have h1 : Lib.lastIndexByte s 95 < s.size := last_lt s 95 s.size
  obtain ⟨i, hi⟩ : ∃ i : Nat, Lib.lastIndexByte s 95 = i := ⟨(Lib.lastIndexByte s 95).toNat, by omega⟩
  have hi0 : 0 < i := by omega
  have hi1 : i < s.size := by omega
  have H : Hid (Lib.lastIndexByte s 95 = i) := hi
  have HE : Hid (ErrsLie w) := he
  clear hl h1 hi he
  by_cases hn : Num s i
  · obtain ⟨u, hu⟩ := hn
    have HN : Hid (Lib.parseUintB 64 (s.extract (i + 1) s.size).data.toList = .ok u) := hu
    clear hu
    go_enter Ybad.func3, Ybad.ntmps3
    go_wp2_with fail
    refine (res_ok s (by omega) _ i u hi0 hi1 H.out HN.out).mono ?_
    rintro e w1 ⟨rfl, hb⟩
    have HB : Hid (Below w.heap.size w w1) := hb
    clear hb
    go_wp2_with fail
    refine (model_high s (by omega) _ i hi0 hi1 H.out).mono ?_
    rintro e w2 ⟨⟨_, rfl⟩ | ⟨hno, rfl⟩, rfl⟩
    · go_wp2
      go_ret
      exact ⟨rfl, HB.out⟩
    · exact absurd ⟨u, HN.out⟩ hno
  · have HN : Hid (¬ Num s i) := hn
    clear hn
    go_enter Ybad.func3, Ybad.ntmps3
    go_wp2_with fail
    refine (res_bad s (by omega) _ i hi0 hi1 H.out (fun u hu => HN.out ⟨u, hu⟩) HE.out).mono ?_
    rintro e w1 ⟨rfl, hb⟩
    have HB : Hid (Below w.heap.size w w1) := hb
    clear hb
    go_wp2_with fail
    refine (model_high s (by omega) _ i hi0 hi1 H.out).mono ?_
    rintro e w2 ⟨⟨hno, rfl⟩ | ⟨_, rfl⟩, rfl⟩
    · exact absurd hno HN.out
    · go_wp2
      go_ret
      exact ⟨rfl, HB.out⟩
end Go.Proofs.YbulkbcauDoor
