/-
  PROOF OF 'Rows.LawS2659BRoundTripCardSaid': the row's statement by contracts, then the tied card by the builder's one call.
-/
import Derived.Test.YbulkbcauDoorCards
import Derived.Test.YbulkbcauDoorTie
import Derived.Test.YbulkbcauDoorTrip
import Derived.LaidMore
import Derived.OpenShut
import Derived.Stop.Joined
import Derived.SevenTiedAt
import Derived.ChangeOld
import Derived.Deep.Strs
import Derived.ShutString
namespace Go.Proofs.YbulkbcauDoor.lawS2659BRoundTrip
open Go.ChangeShapes Go.WideShapes Go.ChangeAt Go.RowKit
open Go.ChangeMaps (open_string shut_string)
set_option linter.unusedVariables false

/-- The door's own heap meets the condition. -/
theorem door_met (os : Os) (args : Array Value) : laidMetH Ybad.prog Rows.lawS2659BRoundTripRow.laid ((World.doorLaid Ybad.prog 400 os).forCall (fun _ _ => 0) ⟨#[], args, []⟩).memory :=
  laidMetH_of_parts3 (fuel := 8) (laidMet_of_run' 8 (by kernel_rfl) (by kernel_rfl)) (by kernel_rfl) (by kernel_rfl)

theorem gPow : Ybad.prog.globalNamed Ybad.powName = some 1 := by kernel_rfl
theorem tPow : (Ybad.prog.globals[1]?).map (·.type) = some 70 := by kernel_rfl
theorem own4 : ownKnob Ybad.prog.godebug = none := by kernel_rfl
theorem of_laid {W : World} (h : laidMetH Ybad.prog Rows.lawS2659BRoundTripRow.laid W) : Lib.TabIs Ybad.prog W Ybad.powName .u64 Lib.pow10Tab := by
  rw [MakeChecks.laidMetH_plain _ _ _ (by kernel_rfl)] at h
  obtain ⟨ps, ⟨g0, t0, cs0, f0, p0, q0, hg0, ht0, hv0, hd0, ⟨g1, t1, cs1, f1, p1, q1, hg1, ht1, hv1, hd1, ⟨g2, t2, cs2, f2, p2, q2, hg2, ht2, hv2, hd2, _, _⟩, _⟩, _⟩, _, _⟩ := h
  obtain rfl := Option.some.inj (gPow.symm.trans hg2)
  obtain rfl := Option.some.inj (tPow.symm.trans ht2)
  show World.var? Ybad.prog W Ybad.powName = _
  have e := Lib.cells_of_tab (zs := Lib.pow10Tab) (k := .u64) Ybad.underlying70 Ybad.underlying25 (by kernel_rfl) (by kernel_rfl) hd2
  rw [← e]
  exact hv2
theorem law_all (nm : ByteArray) (n z : Nat) (hn : n < 18446744073709551616) (hz : z < 256) (w : World) (ht : Lib.TabIs Ybad.prog w Ybad.powName .u64 Lib.pow10Tab) :
    Calls Ybad.prog 4 #[.string nm, .int .u64 n, .int .u8 z] w fun e w' => e = .returned (.bool true) ∧ Below w.heap.size w w' := by
  by_cases h : 1024 < nm.size
  · exact trip_long nm n z w h
  · exact trip_some nm n z hn hz w h ht

set_option maxRecDepth 100000 in
theorem lifted (os : Os) (started : os.Started) (H : Type) (enc : TypeId × Value → H) :
    ReturnsInHanded {} Ybad.checked os 4 .any (fun w args => (Rows.lawS2659BRoundTripSpec.pre enc Ybad.prog Ybad.f4 [] false w args ∧ laidMetH Ybad.prog Rows.lawS2659BRoundTripRow.laid w) ∧ sizedMet enc Ybad.prog Ybad.f4 (OpenSpec.ofChange Rows.lawS2659BRoundTripSpec) false w args)
      (Rows.lawS2659BRoundTripSpec.post enc Ybad.prog Ybad.f4 false true false false) := by
  refine returnsInHanded_of_change_and (C := Ybad.checked) (X := fun w _ => laidMetH Ybad.prog Rows.lawS2659BRoundTripRow.laid w) (fun _ _ _ hh h => h.of_heap hh) own4 started (by kernel_rfl) Ybad.func4
    (ChangeSpec.witness_shaped (enc := enc) (C := Ybad.checked) (os := os) (X := fun w _ => laidMetH Ybad.prog Rows.lawS2659BRoundTripRow.laid w) false (World.doorLaid Ybad.prog 400 os) #[.string ⟨#[]⟩, .int .u64 0, .int .u8 0] 8 rfl (World.shaped_of_RefB (by kernel_rfl) (by kernel_rfl)) (by kernel_rfl) (by kernel_rfl) (by kernel_rfl) (door_met os _)) ?_
  intro W base args ds gs before hval0 hW _ _ hL _
  have hval : ∀ (j : Nat) t v, Ybad.f4.params[j]? = some t → args[j]? = some v → Value.okWide Ybad.prog W .any base t v := hval0
  have hW' := hW
  obtain ⟨p, q, hA0, hV, rfl, hfz, hnd⟩ := hW
  have hA : DataW.TrodAll enc Ybad.prog W 0 (fun _ => true) true Ybad.f4.params.toList args.toList ds p := hA0
  rw [Ybad.params4] at hA hval
  obtain ⟨v0, vs0, d0, ds0, p0, q0, hargs, rfl, rfl, h0, r0⟩ := trodAll_cons hA
  obtain ⟨v1, vs1, d1, ds1, p1, q1, rfl, rfl, rfl, h1, r1⟩ := trodAll_cons r0
  obtain ⟨v2, vs2, d2, ds2, p2, q2, rfl, rfl, rfl, h2, r2⟩ := trodAll_cons r1
  obtain ⟨rfl, rfl, rfl⟩ := trodAll_nil r2
  obtain rfl : args = #[v0, v1, v2] := by cases args; simp_all
  obtain ⟨rfl, rfl⟩ := trodVars_none hV
  have hT := of_laid hL
  clear hA0 hval0
  obtain ⟨a0, rfl, rfl, rfl, w0⟩ := open_string Ybad.underlying9 (hval 0 9 v0 rfl rfl) h0
  obtain ⟨a1, rfl, rfl, rfl, w1⟩ := open_int Ybad.underlying25 (hval 1 25 v1 rfl rfl) h1
  obtain ⟨a2, rfl, rfl, rfl, w2⟩ := open_int Ybad.underlying5 (hval 2 5 v2 rfl rfl) h2
  simp only [List.append_nil] at hW'
  have b1 := bounds_u64 w1
  have b2 := bounds_u8 w2
  obtain ⟨n, rfl⟩ : ∃ n : Nat, a1 = n := ⟨a1.toNat, by omega⟩
  obtain ⟨z, rfl⟩ : ∃ z : Nat, a2 = z := ⟨a2.toNat, by omega⟩
  refine (law_all a0 n z (by omega) (by omega) W hT).mono fun e W' ⟨he, bel⟩ => ?_
  subst he
  exact ⟨_, rfl, _, _, _, [], [], [], hW', trodAll_mk1 (shut_bool Ybad.underlying4 _), (trodAll_cons_mk (shut_string Ybad.underlying9 w0) (trodAll_cons_mk (shut_int Ybad.underlying25 w1) (trodAll_cons_mk (shut_int Ybad.underlying5 w2) trodAll_mk0))), rfl, bel.frame _, fun h => by cases h⟩

theorem row_holds : Rows.LawS2659BRoundTripSaid :=
  OpenClaim.holds_of_wide 4 Ybad.f4 rfl rfl rfl rfl rfl rfl rfl ⟨rfl, rfl, rfl, rfl, rfl⟩ rfl rfl rfl rfl rfl (by kernel_rfl) Ybad.func4 (by kernel_rfl)
    (of_decide_eq_true (by kernel_rfl)) (by unfold Func.isWrapper; first | (rw [if_pos (by decide +kernel)]; kernel_rfl) | (rw [if_neg (by decide +kernel)]; exact ⟨rfl, rfl⟩))
    (fun os started H enc _ => lifted os started H enc)
theorem proved : Rows.LawS2659BRoundTripCardSaid :=
  Claim7.holds_tied_plain_at .later [] [.data, .data, .data, .sentinel, .sentinel] true (true, "b74d0c1fba311772de3486ccbc1f51d4b08ae4ce420638ff5667bd58087f2ffb") true
    row_holds (fun _ h => by cases h) (by kernel_rfl) (fun _ h => by cases h) lawS2659BRoundTrip_row_tie rfl ⟨rfl, rfl⟩ (by kernel_rfl) rfl
    (fun f fn hf hfn => by
      obtain rfl : f = 4 := Option.some.inj ((show Ybad.prog.funcNamed Rows.lawS2659BRoundTripRow.func = some 4 by kernel_rfl).symm.trans hf) |>.symm
      obtain rfl : fn = Ybad.f4 := (Option.some.inj (Ybad.func4.symm.trans hfn)).symm
      exact ⟨by kernel_rfl, fun j t ht => by
        rw [Ybad.params4] at ht
        have hm : t ∈ [9, 25, 5] := by simpa using Array.mem_of_getElem? ht
        have hall : ([9, 25, 5].all fun u => !Ybad.prog.wantsStandIn u) = true := by kernel_rfl
        exact (show Ybad.prog.wantsStandIn t = false by simpa using List.all_eq_true.1 hall t hm)⟩)
    (by kernel_rfl)
end Go.Proofs.YbulkbcauDoor.lawS2659BRoundTrip
