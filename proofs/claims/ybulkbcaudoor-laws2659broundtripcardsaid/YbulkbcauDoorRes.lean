/-
  OWN TEXT. ResourceOf (5) by contracts.
-/
import Derived.Test.YbulkbcauDoorRows
import Derived.Test.YbulkbcauDoorShelf
import Derived.WalkKit
import Derived.ProofKit
import Derived.WalkSpells
import Derived.WalkLawsBesides
import Derived.Handy
import Derived.Lib.AtoiErrMem
namespace Go.Proofs.YbulkbcauDoor
open Go.ChangeShapes Go.WideShapes Go.ChangeAt Go.RowKit
/-- What strconv.ErrSyntax and strconv.ErrRange hold: an error, or nil. -/
def ErrsLie (w : World) : Prop := (∃ e0, w.cell? ⟨2, 0, none⟩ = some e0 ∧ (e0 = .nilIface ∨ ∃ te pe, e0 = .iface te pe)) ∧ ∃ e1, w.cell? ⟨3, 0, none⟩ = some e1 ∧ (e1 = .nilIface ∨ ∃ te pe, e1 = .iface te pe)
set_option maxHeartbeats 400000 in
theorem res_low (s : ByteArray) (hs : s.size ≤ 2000) (w : World) (h : Lib.lastIndexByte s 95 ≤ 0) :
    Calls Ybad.prog 5 #[.string s] w fun e w' => e = .returned (.tuple #[.string ⟨#[]⟩, .bool false]) ∧ w = w' := by
  go_enter Ybad.func5, Ybad.ntmps5
  go_wp2_with (go_at_call 9; refine (Ybad.strings_LastIndexByte _ _ (by omega) _).mono ?_; rintro e w' ⟨rfl, rfl⟩)
  go_ret2
  exact ⟨rfl, rfl⟩
set_option maxHeartbeats 400000 in
theorem res_ok (s : ByteArray) (hs : s.size ≤ 2000) (w : World) (i u : Nat) (hi : 0 < i) (hl : i < s.size) (h : Lib.lastIndexByte s 95 = i) (hp : Lib.parseUintB 64 (s.extract (i + 1) s.size).data.toList = .ok u) :
    Calls Ybad.prog 5 #[.string s] w fun e w' => e = .returned (.tuple #[.string (s.extract 0 i), .bool true]) ∧ Below w.heap.size w w' := by
  have hsz : (s.extract (i + 1) s.size).size ≤ 2000 := by simp; omega
  have HP : Hid (Lib.parseUintB 64 (s.extract (i + 1) s.size).data.toList = .ok u) := hp
  have HI : Hid (Lib.lastIndexByte s 95 = i) := h
  clear hp h
  go_enter Ybad.func5, Ybad.ntmps5
  go_wp2_with fail
  refine (Ybad.strings_LastIndexByte _ _ (by omega) _).mono ?_
  rintro e w' ⟨rfl, rfl⟩
  rw [HI.out]
  go_wp2_with fail
  refine (Ybad.strconv_ParseUint_10_at0_ok _ (by omega) u HP.out _).mono ?_
  rintro e w1 ⟨rfl, hw⟩
  have HB : Hid (Below w'.heap.size w' w1) := by
    rcases hw with rfl | rfl
    · exact Below.refl _ _
    · exact Lib.bytesWorld_below _ _ _
  clear hw
  go_wp2
  go_ret2
  exact ⟨rfl, HB.out⟩
set_option maxHeartbeats 400000 in
theorem res_bad (s : ByteArray) (hs : s.size ≤ 2000) (w : World) (i : Nat) (hi : 0 < i) (hl : i < s.size) (h : Lib.lastIndexByte s 95 = i) (hp : ∀ u, Lib.parseUintB 64 (s.extract (i + 1) s.size).data.toList ≠ .ok u) (he : ErrsLie w) :
    Calls Ybad.prog 5 #[.string s] w fun e w' => e = .returned (.tuple #[.string ⟨#[]⟩, .bool false]) ∧ Below w.heap.size w w' := by
  have hsz : (s.extract (i + 1) s.size).size ≤ 2000 := by simp; omega
  have HP : Hid (∀ u, Lib.parseUintB 64 (s.extract (i + 1) s.size).data.toList ≠ .ok u) := hp
  have HI : Hid (Lib.lastIndexByte s 95 = i) := h
  obtain ⟨⟨e0, c0, k0⟩, e1, c1, k1⟩ := he
  have HE : Hid ((w.cell? ⟨2, 0, none⟩ = some e0 ∧ w.cell? ⟨3, 0, none⟩ = some e1) ∧ (e0 = .nilIface ∨ ∃ te pe, e0 = .iface te pe) ∧ (e1 = .nilIface ∨ ∃ te pe, e1 = .iface te pe)) := ⟨⟨c0, c1⟩, k0, k1⟩
  clear hp h c0 c1 k0 k1
  go_enter Ybad.func5, Ybad.ntmps5
  go_wp2_with fail
  refine (Ybad.strings_LastIndexByte _ _ (by omega) _).mono ?_
  rintro e w' ⟨rfl, rfl⟩
  rw [HI.out]
  go_wp2_with fail
  refine (Ybad.parse_bad _ (by omega) HP.out e0 e1 _ HE.out.1.1 HE.out.1.2 HE.out.2.1 HE.out.2.2).mono ?_
  rintro e w1 ⟨x, N, rfl, hb⟩
  have HB : Hid (Below w'.heap.size w' w1) := hb
  clear hb
  go_wp2
  go_ret2
  exact ⟨rfl, HB.out⟩
end Go.Proofs.YbulkbcauDoor
