/-
  OWN TEXT. The law (3) walked.
-/
import Derived.Test.YbulkbcbwDoorModelFn
namespace Go.Proofs.YbulkbcbwDoor
open Go.ChangeShapes Go.WideShapes Go.ChangeAt Go.RowKit
set_option maxHeartbeats 400000 in
theorem law_long (ra : Option Addr) (n rc : Nat) (w : World) (h : 1024 < n) :
    Calls Ybad.prog 3 #[.slice ra n rc] w fun e w' => e = .returned (.bool true) ∧ Below w.heap.size w w' := by
  go_enter Ybad.func3, Ybad.ntmps3
  go_wp2
  go_ret
  exact ⟨rfl, Below.refl _ _⟩
theorem digs_dig (r : Nat → Nat) (n : Nat) : IsDig ⟨(digs r n).toArray⟩ (fun j => r j % 10) := by
  intro j hj
  have hj' : j < (digs r n).length := hj
  exact digs_at r n j hj'
theorem digs_size (r : Nat → Nat) (n : Nat) : (⟨(digs r n).toArray⟩ : ByteArray).size = n := digs_len r n
set_option maxHeartbeats 400000 in
theorem law_some (ra : Option Addr) (n rc : Nat) (r : Nat → Nat) (w : World) (h : ¬ 1024 < n) (hr : Raws w ra n r) (ht : Tens w) :
    Calls Ybad.prog 3 #[.slice ra n rc] w fun e w' => e = .returned (.bool true) ∧ Below w.heap.size w w' := by
  have HR := Lib.hid hr
  have HT := Lib.hid ht
  clear hr ht
  go_enter Ybad.func3, Ybad.ntmps3
  go_wp2_with fail
  refine (digits_of ra n rc r w (by omega) HR.out).mono ?_
  rintro e w1 ⟨rfl, hb1⟩
  have HB1 := Lib.hid hb1
  clear hb1
  have HFr : Hid (∀ w, Tens w → Calls Ybad.prog 5 #[.string ⟨(digs r n).toArray⟩] w fun e w' => e = .returned (.int .u64 (Fr (fun j => r j % 10) 0 n)) ∧ Below w.heap.size w w') := by
    intro w hw
    have := frac_of ⟨(digs r n).toArray⟩ (fun j => r j % 10) (by rw [digs_size]; omega) (digs_dig r n) (fun j => Nat.mod_lt _ (by omega)) w hw
    rw [digs_size] at this
    exact this
  go_wp2_with fail
  refine (HFr.out _ (HT.out.below HB1.out)).mono ?_
  rintro e w2 ⟨rfl, hb2⟩
  have HB2 := Lib.hid (HB1.out.trans (below_more hb2 HB1.out.size))
  clear hb2
  go_wp2_with fail
  refine (model_of ra n rc r w2 (by omega) (HR.out.below HB2.out)).mono ?_
  rintro e w3 ⟨rfl, hb3⟩
  have HB3 := Lib.hid (HB2.out.trans (below_more hb3 HB2.out.size))
  clear hb3
  go_wp2
  go_ret
  exact ⟨rfl, HB3.out⟩
end Go.Proofs.YbulkbcbwDoor
