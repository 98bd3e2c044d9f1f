/-
  OWN TEXT. What the listed variables hold when the call begins.
-/
import Derived.Test.YbulkbcauDoorLaw
import Derived.ProofKit
import Derived.LaidMore
import Derived.OpenShut
import Derived.Stop.Joined
namespace Go.Proofs.YbulkbcauDoor
open Go.ChangeShapes Go.WideShapes Go.ChangeAt Go.RowKit
theorem own : ownKnob Ybad.prog.godebug = none := by kernel_rfl
theorem gRange : Ybad.prog.globalNamed "strconv.ErrRange" = some 3 := by kernel_rfl
theorem gSyn : Ybad.prog.globalNamed "strconv.ErrSyntax" = some 2 := by kernel_rfl
theorem tRange : (Ybad.prog.globals[3]?).map (·.type) = some 31 := by kernel_rfl
theorem tSyn : (Ybad.prog.globals[2]?).map (·.type) = some 31 := by kernel_rfl
theorem u31 : ∃ ms, Ybad.prog.underlying 31 = some (.interface ms) := ⟨_, Ybad.underlying31⟩
theorem iface_cells {P : Program} {w : World} {H : Type} {enc : TypeId × Value → H} {base : Nat} {spare : Nat → Bool} {held : Bool} {f : Nat} {t : TypeId} {ms : Array (String × TypeId)} {cs : List Value} {x : DataW H × List MemPlace} (ht : P.underlying t = some (.interface ms))
    (h : DataW.trod enc P w base spare held f t cs = some x) : ∃ e, cs = [e] ∧ (e = .nilIface ∨ ∃ te pe, e = .iface te pe) := by
  cases f with
  | zero => unfold DataW.trod at h; cases h
  | succ f =>
    unfold DataW.trod at h
    rw [ht] at h
    split at h <;> first
      | (rename_i he; cases he; done)
      | exact ⟨_, rfl, Or.inl rfl⟩
      | exact ⟨_, rfl, Or.inr ⟨_, _, rfl⟩⟩
      | simp_all
theorem of_laid {W : World} (h : laidMetH Ybad.prog Rows.lawS2659BModelRow.laid W) : ErrsLie W := by
  rw [MakeChecks.laidMetH_plain _ _ _ (by kernel_rfl)] at h
  obtain ⟨ps, ⟨g0, t0, cs0, f0, p0, q0, hg0, ht0, hv0, hd0, ⟨g1, t1, cs1, f1, p1, q1, hg1, ht1, hv1, hd1, ⟨g2, t2, cs2, f2, p2, q2, hg2, ht2, hv2, hd2, ⟨g3, t3, cs3, f3, p3, q3, hg3, ht3, hv3, hd3, ⟨g4, t4, cs4, f4, p4, q4, hg4, ht4, hv4, hd4, _, _⟩, _⟩, _⟩, _⟩, _⟩, _, _⟩ := h
  obtain rfl := Option.some.inj (gRange.symm.trans hg3)
  obtain rfl := Option.some.inj (gSyn.symm.trans hg4)
  obtain rfl := Option.some.inj (tRange.symm.trans ht3)
  obtain rfl := Option.some.inj (tSyn.symm.trans ht4)
  obtain ⟨ms, h31⟩ := u31
  obtain ⟨e0, c0, k0⟩ := iface_cells h31 hd4
  obtain ⟨e1, c1, k1⟩ := iface_cells h31 hd3
  refine ⟨⟨e0, ?_, k0⟩, e1, ?_, k1⟩
  · have := World.var?_cell hg4 hv4 0
    rw [Array.eq_one_of_toList c0] at this
    simpa using this
  · have := World.var?_cell hg3 hv3 0
    rw [Array.eq_one_of_toList c1] at this
    simpa using this
end Go.Proofs.YbulkbcauDoor
