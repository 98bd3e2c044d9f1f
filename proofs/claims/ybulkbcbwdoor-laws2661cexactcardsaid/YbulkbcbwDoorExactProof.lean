/-
  PROOF OF 'Rows.LawS2661CExactCardSaid': the row's statement by contracts, then the tied card by the builder's one call.
-/
import Derived.Test.YbulkbcbwDoorCards
import Derived.Test.YbulkbcbwDoorTie
import Derived.Test.YbulkbcbwDoorLaw
import Derived.SevenTiedAt
import Derived.ChangeOld
import Derived.ChangeVars
import Derived.ChangeSlices
import Derived.Carry
import Derived.LaidMore
import Derived.OpenShut
import Derived.Stop.Joined
import Derived.Lib.LaidTab
import Derived.Lib.SmallJoins
namespace Go.Proofs.YbulkbcbwDoor.lawS2661CExact
open Go.ChangeShapes Go.WideShapes Go.ChangeAt Go.RowKit
set_option linter.unusedVariables false

theorem own : ownKnob Ybad.prog.godebug = none := by kernel_rfl
theorem laidOut : laidOutB Ybad.prog = true := by kernel_rfl
theorem cells5 : Ybad.prog.cellsOf 5 = 1 := by kernel_rfl
theorem add_at (a : Addr) (b o : Nat) (h : a = ⟨b, o, none⟩) (j : Nat) : a.add j = ⟨b, o + j, none⟩ := by
  subst h
  unfold Addr.add
  split
  · rename_i h; subst h; rfl
  · rfl
theorem spot_none {w : World} {a : Addr} {v : Value} (h : w.cell? (a.add 0) = some v) : a = ⟨a.block, a.off, none⟩ := by
  have := World.cell?_spot h
  obtain ⟨b, o, s⟩ := a
  have hs : s = none := by simpa [Addr.add] using this
  subst hs
  rfl
theorem open_raw {H : Type} {enc : TypeId × Value → H} {W : World} {held : Bool} {fuel : Nat} {ra : Option Addr} {n rc : Nat} {x : DataW H × List MemPlace} (h : DataW.trod enc Ybad.prog W 0 (fun _ => true) held fuel 22 [.slice ra n rc] = some x) :
    ∃ r, Raws W ra n r := by
  rcases open_ints Ybad.underlying22 Ybad.underlying5 cells5 h with ⟨e, _⟩ | ⟨a, len, cap, zs, e, _, hl, _, hs, _, hc, hw⟩
  · cases e
    exact ⟨fun _ => 0, fun j hj => absurd hj (by omega)⟩
  · cases e
    simp only [if_true] at hs
    refine ⟨fun j => (zs.getD j 0).toNat, fun j hj => ?_⟩
    have ha := spot_none (hc 0 (by omega))
    have h1 := hc j (by omega)
    rw [add_at a _ _ ha] at h1
    have hmem : zs.getD j 0 ∈ zs := by
      rw [List.getD_eq_getElem?_getD, List.getElem?_eq_getElem (by omega)]
      exact List.getElem_mem _
    have hb := bounds_u8 (hw _ hmem)
    refine ⟨a.block, a.off, by rw [← ha], ?_, by show (zs.getD j 0).toNat < 256; omega⟩
    show _ = some (Value.int .u8 (((zs.getD j 0).toNat : Nat) : Int))
    rw [Int.toNat_of_nonneg hb.1]
    exact h1
theorem pow_tab : ∀ k : Fin 20, Lib.pow10Tab.getD k.val 0 = ((10 ^ k.val : Nat) : Int) := by decide
theorem of_laid {W : World} (h : laidMetH Ybad.prog Rows.lawS2661CExactRow.laid W) : Tens W := by
  rw [MakeChecks.laidMetH_plain _ _ _ (by kernel_rfl)] at h
  obtain ⟨ps, ⟨g0, t0, cs0, f0, p0, q0, hg0, ht0, hv0, hd0, _, _⟩, _, _⟩ := h
  obtain rfl := Option.some.inj ((show Ybad.prog.globalNamed _ = some 0 by kernel_rfl).symm.trans hg0)
  obtain rfl := Option.some.inj ((show (Ybad.prog.globals[0]?).map (·.type) = some 30 by kernel_rfl).symm.trans ht0)
  have e := Lib.cells_of_tab (zs := Lib.pow10Tab) (k := .u64) Ybad.underlying30 Ybad.underlying23 (by kernel_rfl) (by kernel_rfl) hd0
  intro k hk
  have h1 := World.var?_cell hg0 hv0 k
  have hl : k < Lib.pow10Tab.length := hk
  have h2 : cs0[k]? = some (.int .u64 (Lib.pow10Tab.getD k 0)) := by
    rw [← Array.getElem?_toList, e, List.getElem?_map, List.getElem?_eq_getElem hl, List.getD_eq_getElem?_getD, List.getElem?_eq_getElem hl]
    rfl
  rw [h1, h2, pow_tab ⟨k, hk⟩]
theorem var_again {H : Type} {enc : TypeId × Value → H} {W W' : World} {n : String} {g : Nat} {cs : Array Value} {fuel : Nat} {d : DataW H} {p : List MemPlace} (hg : Ybad.prog.globalNamed n = some g) (ht : (Ybad.prog.globals[g]?).map (·.type) = some 30) (hv : W.var? Ybad.prog n = some cs)
    (hd : DataW.trod enc Ybad.prog W 0 (fun _ => true) true fuel 30 cs.toList = some (d, p)) (bel : Below W.heap.size W W') :
    DataW.TrodVars enc Ybad.prog W' (fun b => decide (b < W.heap.size)) [n] [d] (MemPlace.row ⟨g, 0, none⟩ cs.size ++ p) := by
  have k : DataW.Trod enc Ybad.prog W 0 (fun _ => true) true 30 (.agg cs) d p := ⟨fuel, hd⟩
  have lt : ∀ x ∈ p, x.block < W.heap.size := by obtain ⟨m, hm⟩ := k; exact DataW.trod_lt m _ _ _ hm
  obtain ⟨fuel', h'⟩ := Below.trod laidOut (by kernel_rfl) (of_decide_eq_true (by kernel_rfl)) k bel lt
  exact trodVars_mk1 hg ht (Joins.var_stays hg hv bel (Nat.le_refl _)) h'
theorem door_met (os : Os) (args : Array Value) : laidMetH Ybad.prog Rows.lawS2661CExactRow.laid ((World.doorLaid Ybad.prog 4000 os).forCall (fun _ _ => 0) ⟨#[], args, []⟩).memory :=
  laidMetH_of_parts3 (fuel := 8) (laidMet_of_run' 8 (by kernel_rfl) (by kernel_rfl)) (by kernel_rfl) (by kernel_rfl)

set_option maxRecDepth 100000 in
theorem lifted (os : Os) (started : os.Started) (H : Type) (enc : TypeId × Value → H) :
    ReturnsInHanded {} Ybad.checked os 3 .any (fun w args => (Rows.lawS2661CExactSpec.pre enc Ybad.prog Ybad.f3 [] false w args ∧ laidMetH Ybad.prog Rows.lawS2661CExactRow.laid w) ∧ sizedMet enc Ybad.prog Ybad.f3 (OpenSpec.ofChange Rows.lawS2661CExactSpec) false w args)
      (Rows.lawS2661CExactSpec.post enc Ybad.prog Ybad.f3 false true false false) := by
  refine returnsInHanded_of_change_and (C := Ybad.checked) (X := fun w _ => laidMetH Ybad.prog Rows.lawS2661CExactRow.laid w) (fun _ _ _ hh h => h.of_heap hh) own started (by kernel_rfl) Ybad.func3
    (ChangeSpec.witness_shaped (enc := enc) (C := Ybad.checked) (os := os) (X := fun w _ => laidMetH Ybad.prog Rows.lawS2661CExactRow.laid w) false (World.doorLaid Ybad.prog 4000 os) #[.slice none 0 0] 8 rfl (World.shaped_of_RefB (by kernel_rfl) (by kernel_rfl)) (by kernel_rfl) (by kernel_rfl) (by kernel_rfl) (door_met os _)) ?_
  intro W base args ds gs before hval0 hW _ _ hL _
  have hval : ∀ (j : Nat) t v, Ybad.f3.params[j]? = some t → args[j]? = some v → Value.okWide Ybad.prog W .any base t v := hval0
  have hW' := hW
  obtain ⟨p, q, hA0, hV0, rfl, hfz, hnd⟩ := hW
  have hA : DataW.TrodAll enc Ybad.prog W 0 (fun _ => true) true Ybad.f3.params.toList args.toList ds p := hA0
  rw [Ybad.params3] at hA hval
  obtain ⟨v0, d0, rfl, rfl, h0⟩ := trodAll_one hA
  obtain ⟨gv, tv, cv, fv, dv, pv, rfl, hgv, htv, hvv, hdv, rfl⟩ := trodVars_one hV0
  have hT := of_laid hL
  clear hA0 hval0
  obtain ⟨ra, n, rc, rfl⟩ := okWide_slice Ybad.underlying22 (hval 0 22 v0 rfl rfl)
  have lt0 : ∀ x ∈ p, x.block < W.heap.size := by obtain ⟨k, hk⟩ := h0; exact DataW.trod_lt k _ _ _ hk
  have walk : Calls Ybad.prog 3 #[.slice ra n rc] W fun e w' => e = .returned (.bool true) ∧ Below W.heap.size W w' := by
    by_cases hn : 1024 < n
    · exact law_long ra n rc W hn
    · obtain ⟨f0, hf0⟩ := h0
      obtain ⟨r, hr⟩ := open_raw (ra := ra) (n := n) (rc := rc) (by simpa [Value.cells] using hf0)
      exact law_some ra n rc r W hn hr hT
  refine walk.mono fun e W' ⟨he, bel⟩ => ?_
  subst he
  have htv' : (Ybad.prog.globals[gv]?).map (·.type) = some 30 := by
    obtain rfl := Option.some.inj ((show Ybad.prog.globalNamed _ = some 0 by kernel_rfl).symm.trans hgv)
    kernel_rfl
  obtain rfl := Option.some.inj (htv'.symm.trans htv)
  exact ⟨_, rfl, _, _, _, [], _, _, hW', trodAll_mk1 (shut_bool Ybad.underlying4 _), (trodAll_cons_mk (Below.trod laidOut (by kernel_rfl) (of_decide_eq_true (by kernel_rfl)) h0 bel lt0) trodAll_mk0), var_again hgv htv hvv hdv bel, bel.frame _, fun h => by cases h⟩

theorem row_holds : Rows.LawS2661CExactSaid :=
  OpenClaim.holds_of_wide 3 Ybad.f3 rfl rfl rfl rfl rfl rfl rfl ⟨rfl, rfl, rfl, rfl, rfl⟩ rfl rfl rfl rfl rfl (by kernel_rfl) Ybad.func3 (by kernel_rfl)
    (of_decide_eq_true (by kernel_rfl)) (by unfold Func.isWrapper; first | (rw [if_pos (by decide +kernel)]; kernel_rfl) | (rw [if_neg (by decide +kernel)]; exact ⟨rfl, rfl⟩))
    (fun os started H enc _ => lifted os started H enc)
theorem proved : Rows.LawS2661CExactCardSaid :=
  Claim7.holds_tied_plain_at .later [] [.called] true (true, "64b429467c127c98b1641bf0007746f216efbeafc47159ebcd4b3c2bdde76149") false
    row_holds (fun _ h => by cases h) (by kernel_rfl) (fun _ h => by cases h) lawS2661CExact_row_tie rfl ⟨rfl, rfl⟩ (by kernel_rfl) rfl
    (fun f fn hf hfn => by
      obtain rfl : f = 3 := Option.some.inj ((show Ybad.prog.funcNamed Rows.lawS2661CExactRow.func = some 3 by kernel_rfl).symm.trans hf) |>.symm
      obtain rfl : fn = Ybad.f3 := (Option.some.inj (Ybad.func3.symm.trans hfn)).symm
      exact ⟨by kernel_rfl, fun j t ht => by
        rw [Ybad.params3] at ht
        have hm : t ∈ [22] := by simpa using Array.mem_of_getElem? ht
        have hall : ([22].all fun u => !Ybad.prog.wantsStandIn u) = true := by kernel_rfl
        exact (show Ybad.prog.wantsStandIn t = false by simpa using List.all_eq_true.1 hall t hm)⟩)
    (by kernel_rfl)
end Go.Proofs.YbulkbcbwDoor.lawS2661CExact
