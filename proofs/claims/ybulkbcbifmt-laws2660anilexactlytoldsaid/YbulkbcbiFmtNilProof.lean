/-
  PROOF OF 'Rows.LawS2660ANilExactlyToldSaid': the row by contracts (fmt's text is told and not looked at), then the told and tied card by the builder's one call.
-/
import Derived.Test.YbulkbcbiFmtCards
import Derived.Test.YbulkbcbiFmtTie
import Derived.Test.YbulkbcbiFmtLaw
import Derived.SevenTiedAt
import Derived.LaidMore
import Derived.OpenShut
import Derived.ShutString
import Derived.SliceStrings
import Derived.ChangeSlices
import Derived.ChangeVars
import Derived.ChangeOld
import Derived.Carry
import Derived.Lib.SmallJoins
import Derived.Stop.Joined
import Derived.Stop.JoinedTold
import Derived.Deep.DeepWitnessRef
namespace Go.Proofs.YbulkbcbiFmt.lawS2660ANilExactly
open Go.ChangeShapes Go.WideShapes Go.ChangeAt Go.RowKit
open Go.ChangeMaps (open_string shut_string)
open Go.Extern.Stop Go.Stop Go.Extern
set_option linter.unusedVariables false

theorem own : ownKnob Ybaf.prog.godebug = none := by kernel_rfl
theorem laidOut : laidOutB Ybaf.prog = true := by kernel_rfl
theorem cells9 : Ybaf.prog.cellsOf 9 = 1 := by kernel_rfl
theorem cells5 : Ybaf.prog.cellsOf 5 = 1 := by kernel_rfl
theorem add_at (a : Addr) (b o : Nat) (h : a = ⟨b, o, none⟩) (j : Nat) : a.add j = ⟨b, o + j, none⟩ := by
  subst h
  unfold Addr.add
  split
  · rename_i h; subst h; rfl
  · rfl
/-- A place whose element is a cell has no spot. -/
theorem spot_none {w : World} {a : Addr} {v : Value} (h : w.cell? (a.add 0) = some v) : a = ⟨a.block, a.off, none⟩ := by
  have := World.cell?_spot h
  obtain ⟨b, o, s⟩ := a
  have hs : s = none := by simpa [Addr.add] using this
  subst hs
  rfl
theorem open_fields {H : Type} {enc : TypeId × Value → H} {W : World} {held : Bool} {fuel : Nat} {cs : List Value} {x : DataW H × List MemPlace} (h : DataW.trod enc Ybaf.prog W 0 (fun _ => true) held fuel 22 cs = some x) :
    ∃ v, cs = [v] ∧ v.cells.toList = [v] ∧ ∀ fa m fc, v = .slice fa m fc → 0 < m → ∃ fb fo f, fa = some ⟨fb, fo, none⟩ ∧ Strs W fb fo m f := by
  rcases open_strings Ybaf.underlying22 Ybaf.underlying9 cells9 h with ⟨rfl, _⟩ | ⟨a, len, cap, ss, rfl, _, hl, _, hs, _, hc, _⟩
  · refine ⟨_, rfl, rfl, fun fa m fc e h0 => ?_⟩
    cases e
    exact absurd h0 (by omega)
  · refine ⟨_, rfl, rfl, fun fa m fc e h0 => ?_⟩
    cases e
    simp only [if_true] at hs
    have ha := spot_none (hc 0 (by omega))
    refine ⟨a.block, a.off, fun j => ss.getD j ByteArray.empty, by rw [← ha], fun j hj => ?_⟩
    have := hc j (by omega)
    rw [add_at a _ _ ha] at this
    exact this
theorem open_raw {H : Type} {enc : TypeId × Value → H} {W : World} {held : Bool} {fuel : Nat} {ra : Option Addr} {n rc : Nat} {x : DataW H × List MemPlace} (h : DataW.trod enc Ybaf.prog W 0 (fun _ => true) held fuel 23 [.slice ra n rc] = some x) :
    ∃ r, Raws W ra n r := by
  rcases open_ints Ybaf.underlying23 Ybaf.underlying5 cells5 h with ⟨e, _⟩ | ⟨a, len, cap, zs, e, _, hl, _, hs, _, hc, hw⟩
  · cases e
    exact ⟨fun _ => 0, fun j hj => absurd hj (by omega)⟩
  · cases e
    simp only [if_true] at hs
    refine ⟨fun j => (zs.getD j 0).toNat, fun j hj => ?_⟩
    have ha := spot_none (hc 0 (by omega))
    have h1 := hc j (by omega)
    rw [add_at a _ _ ha] at h1
    have hmem : zs.getD j 0 ∈ zs := by
      rw [List.getD_eq_getElem?_getD, List.getElem?_eq_getElem (by omega)]
      exact List.getElem_mem _
    have hb := bounds_u8 (hw _ hmem)
    refine ⟨a.block, a.off, by rw [← ha], ?_, by show (zs.getD j 0).toNat < 256; omega⟩
    show _ = some (Value.int .u8 (((zs.getD j 0).toNat : Nat) : Int))
    rw [Int.toNat_of_nonneg hb.1]
    exact h1
theorem of_laid {W : World} (h : laidMetH Ybaf.prog Rows.lawS2660ANilExactlyRow.laid W) : Head W := by
  rw [MakeChecks.laidMetH_plain _ _ _ (by kernel_rfl)] at h
  obtain ⟨ps, ⟨g0, t0, cs0, f0, p0, q0, hg0, ht0, hv0, hd0, _, _⟩, _, _⟩ := h
  obtain rfl := Option.some.inj ((show Ybaf.prog.globalNamed _ = some 0 by kernel_rfl).symm.trans hg0)
  obtain rfl := Option.some.inj ((show (Ybaf.prog.globals[0]?).map (·.type) = some 22 by kernel_rfl).symm.trans ht0)
  rcases open_strings Ybaf.underlying22 Ybaf.underlying9 cells9 hd0 with ⟨_, hx⟩ | ⟨a, len, cap, ss, hcs, _, hl, _, hs, hx, hc, _⟩
  · simp [Rows.laid_example_com_vestledger_vestledger_journal_header] at hx
  · simp only [if_true] at hs
    simp only [Rows.laid_example_com_vestledger_vestledger_journal_header, Prod.mk.injEq, DataW.slice.injEq] at hx
    obtain ⟨⟨hx1, hx2⟩, _⟩ := hx
    have l1 := congrArg List.length hx1
    have l2 := congrArg List.length hx2
    simp [strs] at l1 l2
    obtain rfl : len = 6 := by omega
    obtain rfl : cap = 6 := by omega
    have ha := spot_none (hc 0 (by omega))
    have h0 := World.var?_cell hg0 hv0 0
    rw [Array.eq_one_of_toList hcs] at h0
    refine ⟨a.block, a.off, fun j => ss.getD j ByteArray.empty, ?_, fun j hj => ?_⟩
    · rw [← ha]; simpa using h0
    · have := hc j (by omega)
      rw [add_at a _ _ ha] at this
      exact this
theorem var_again {H : Type} {enc : TypeId × Value → H} {W W' : World} {n : String} {g : Nat} {cs : Array Value} {fuel : Nat} {d : DataW H} {p : List MemPlace} (hg : Ybaf.prog.globalNamed n = some g) (ht : (Ybaf.prog.globals[g]?).map (·.type) = some 22) (hv : W.var? Ybaf.prog n = some cs)
    (hd : DataW.trod enc Ybaf.prog W 0 (fun _ => true) true fuel 22 cs.toList = some (d, p)) (bel : Below W.heap.size W W') :
    DataW.TrodVars enc Ybaf.prog W' (fun b => decide (b < W.heap.size)) [n] [d] (MemPlace.row ⟨g, 0, none⟩ cs.size ++ p) := by
  obtain ⟨v, h1, h2, _⟩ := open_fields hd
  have k : DataW.Trod enc Ybaf.prog W 0 (fun _ => true) true 22 v d p := ⟨fuel, by rw [h2, ← h1]; exact hd⟩
  have lt : ∀ x ∈ p, x.block < W.heap.size := by obtain ⟨m, hm⟩ := k; exact DataW.trod_lt m _ _ _ hm
  obtain ⟨fuel', h'⟩ := Below.trod laidOut (by kernel_rfl) (of_decide_eq_true (by kernel_rfl)) k bel lt
  exact trodVars_mk1 hg ht (Joins.var_stays hg hv bel (Nat.le_refl _)) (by rw [h1, ← h2]; exact h')
theorem door_met (os : Os) (args : Array Value) : laidMetH Ybaf.prog Rows.lawS2660ANilExactlyRow.laid ((World.doorLaid Ybaf.prog 400 os).forCall (fun _ _ => 0) ⟨#[], args, []⟩).memory :=
  laidMetH_of_parts3 (fuel := 8) (laidMet_of_run' 8 (by kernel_rfl) (by kernel_rfl)) (by kernel_rfl) (by kernel_rfl)
theorem witness_row (os : Os) {H : Type} (enc : TypeId × Value → H) :
    (OpenSpec.ofChange Rows.lawS2660ANilExactlySpec).preRow enc Ybaf.prog Ybaf.f3 Rows.lawS2660ANilExactlyRow.domain false Rows.lawS2660ANilExactlyRow.laid ((World.doorLaid Ybaf.prog 400 os).forCall (fun _ _ => 0) ⟨#[], #[.slice none 0 0, .string ⟨#[]⟩, .slice none 0 0], []⟩).memory #[.slice none 0 0, .string ⟨#[]⟩, .slice none 0 0] := by
  have hw : (DataW.whole enc Ybaf.prog ((World.doorLaid Ybaf.prog 400 os).forCall (fun _ _ => 0) ⟨#[], #[.slice none 0 0, .string ⟨#[]⟩, .slice none 0 0], []⟩).memory Ybaf.f3.params.toList (OpenSpec.ofChange Rows.lawS2660ANilExactlySpec).vars false #[Value.slice none 0 0, .string ⟨#[]⟩, .slice none 0 0].toList 8).map (fun x => (x.1, x.2.1)) =
      some ([.nil, .lit (.string []), .nil], [Rows.laid_example_com_vestledger_vestledger_journal_header]) := by kernel_rfl
  obtain ⟨⟨x1, x2, x3⟩, hx, hx1⟩ := Option.map_eq_some_iff.1 hw
  simp only [Prod.mk.injEq] at hx1
  obtain ⟨rfl, rfl⟩ := hx1
  exact OpenSpec.preRow_of_cond 8 hx (by kernel_rfl) (fun k hk => by cases hk) (by kernel_rfl) (door_met os _)
set_option maxRecDepth 100000 in
theorem lifted (os : Os) (started : os.Started) (H : Type) (enc : TypeId × Value → H) :
    ReturnsInTold none {} Ybaf.checked os 3 .any Input.okWide ((OpenSpec.ofChange Rows.lawS2660ANilExactlySpec).preRow enc Ybaf.prog Ybaf.f3 Rows.lawS2660ANilExactlyRow.domain false Rows.lawS2660ANilExactlyRow.laid) (fun F => ((OpenSpec.ofChange Rows.lawS2660ANilExactlySpec).at F).post enc Ybaf.prog Ybaf.f3 false true false false) (aloneAtReturn Ybaf.prog) nothingAlways := by
  refine returnsInTold_of_row (C := Ybaf.checked) (s := OpenSpec.ofChange Rows.lawS2660ANilExactlySpec) (by kernel_rfl) own started (by kernel_rfl) Ybaf.func3
    (OpenSpec.witness_stopped_atRef (enc := enc) (C := Ybaf.checked) false (World.doorLaid Ybaf.prog 400 os) #[.slice none 0 0, .string ⟨#[]⟩, .slice none 0 0] rfl (by kernel_rfl) (by kernel_rfl) (by kernel_rfl) (witness_row os enc)) ?_
  intro F W base args ds gs before _ hF hval0 hW hcnd0 _ _ hL _
  have hval : ∀ (j : Nat) t v, Ybaf.f3.params[j]? = some t → args[j]? = some v → Value.okWide Ybaf.prog W .any base t v := hval0
  have hW' := hW
  obtain ⟨p, q, hA0, hV0, rfl, _, _⟩ := hW
  have hA : DataW.TrodAll enc Ybaf.prog W 0 (fun _ => true) true Ybaf.f3.params.toList args.toList ds p := hA0
  rw [Ybaf.params3] at hA hval
  obtain ⟨v0, vs0, d0, ds0, p0, q0, hargs, rfl, rfl, h0, r0⟩ := trodAll_cons hA
  obtain ⟨v1, vs1, d1, ds1, p1, q1, rfl, rfl, rfl, h1, r1⟩ := trodAll_cons r0
  obtain ⟨v2, vs2, d2, ds2, p2, q2, rfl, rfl, rfl, h2, r2⟩ := trodAll_cons r1
  obtain ⟨rfl, rfl, rfl⟩ := trodAll_nil r2
  obtain rfl : args = #[v0, v1, v2] := by cases args; simp_all
  obtain ⟨gv, tv, cv, fv, dv, pv, rfl, hgv, htv, hvv, hdv, rfl⟩ := trodVars_one hV0
  have hH := of_laid hL
  clear hA0 hval0
  obtain ⟨fa, m, fc, rfl⟩ := okWide_slice Ybaf.underlying22 (hval 0 22 v0 rfl rfl)
  obtain ⟨a1, rfl, rfl, rfl, w1⟩ := open_string Ybaf.underlying9 (hval 1 9 v1 rfl rfl) h1
  obtain ⟨ra, n, rc, rfl⟩ := okWide_slice Ybaf.underlying23 (hval 2 23 v2 rfl rfl)
  have lt0 : ∀ x ∈ p0, x.block < W.heap.size := by obtain ⟨k, hk⟩ := h0; exact DataW.trod_lt k _ _ _ hk
  have lt2 : ∀ x ∈ p2, x.block < W.heap.size := by obtain ⟨k, hk⟩ := h2; exact DataW.trod_lt k _ _ _ hk
  have walk : Calls Ybaf.prog 3 #[.slice fa m fc, .string a1, .slice ra n rc] W fun e w' => e = .returned (.bool true) ∧ Below W.heap.size W w' := by
    by_cases hm : 1024 < m
    · exact law_long fa ra m fc n rc a1 W (Or.inl hm)
    by_cases hn : 1024 < n
    · exact law_long fa ra m fc n rc a1 W (Or.inr ⟨hm, hn⟩)
    by_cases hz : m = 0
    · subst hz
      exact law_zero fa ra fc n rc a1 W hn
    · obtain ⟨f0, hf0⟩ := h0
      obtain ⟨f2, hf2⟩ := h2
      obtain ⟨v, e1, _, ho⟩ := open_fields hf0
      simp [Value.cells] at e1
      obtain ⟨fb, fo, f, rfl, hs⟩ := ho fa m fc e1.symm (by omega)
      obtain ⟨r, hr⟩ := open_raw (ra := ra) (n := n) (rc := rc) (by simpa [Value.cells] using hf2)
      exact law_some ra fb fo m fc n rc f r a1 W (by omega) hm hn hs hr hH
  refine walk.mono fun e W' ⟨he, bel⟩ => ?_
  subst he
  have htv' : (Ybaf.prog.globals[gv]?).map (·.type) = some 22 := by
    obtain rfl := Option.some.inj ((show Ybaf.prog.globalNamed _ = some 0 by kernel_rfl).symm.trans hgv)
    kernel_rfl
  obtain rfl := Option.some.inj (htv'.symm.trans htv)
  exact ⟨_, rfl, _, _, _, [], _, _, hW', trodAll_mk1 (shut_bool Ybaf.underlying4 _), (trodAll_cons_mk (Below.trod laidOut (by kernel_rfl) (of_decide_eq_true (by kernel_rfl)) h0 bel lt0) (trodAll_cons_mk (shut_string Ybaf.underlying9 w1) (trodAll_cons_mk (Below.trod laidOut (by kernel_rfl) (of_decide_eq_true (by kernel_rfl)) h2 bel lt2) trodAll_mk0))), var_again hgv htv hvv hdv bel, bel.frame _, fun h => by cases h⟩

theorem stops : Ybaf.pinned.checked.prog.stops = ["fmt.errorf"] := by kernel_rfl
theorem stopKnobs : Ybaf.pinned.checked.prog.stopKnobs = [] := by kernel_rfl
theorem still (os : Os) : Stop.quiet Ybaf.pinned.checked.prog os := by
  intro k hk
  rw [stopKnobs] at hk
  cases hk

theorem proved : Rows.LawS2660ANilExactlyToldSaid :=
  Claim7.holds_of_told_tied_any_at .later 3 Ybaf.f3 "fmt.errorf" [] [] _ _ _ _ _ (by kernel_rfl) rfl rfl rfl laidOut (by kernel_rfl) rfl ⟨rfl, rfl, rfl, rfl, rfl, rfl, rfl⟩ rfl rfl (by kernel_rfl) (by kernel_rfl) Ybaf.func3 (by kernel_rfl)
    (of_decide_eq_true (by kernel_rfl)) (of_decide_eq_true (by kernel_rfl)) stops.symm rfl stopKnobs.symm (by kernel_rfl)
    (by kernel_rfl) (by kernel_rfl) (by kernel_rfl) (by kernel_rfl) (by kernel_rfl) (by kernel_rfl) (by kernel_rfl) (by kernel_rfl) (by kernel_rfl) rfl (by kernel_rfl) rfl rfl
    rfl rfl
    rfl (by kernel_rfl) (by kernel_rfl) (by kernel_rfl) (by decide) (by kernel_rfl) lawS2660ANilExactly_row_tie
    (OpenClaim.moreEntering_of (by kernel_rfl) (by kernel_rfl) (by kernel_rfl) (by kernel_rfl) (by kernel_rfl) (by kernel_rfl) (by kernel_rfl) (by kernel_rfl) (by kernel_rfl) (by kernel_rfl))
    ⟨_, WideRow.started_initial, still _⟩
    (fun os started _ H enc _ => lifted os started H enc)
end Go.Proofs.YbulkbcbiFmt.lawS2660ANilExactly
