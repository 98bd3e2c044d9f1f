/-
  PROOF OF 'Rows.LawS2658CLookupSaid': the frame after the kit's shell for slices; the argument opened element by element.
-/
import Derived.Test.YbulkbcagRows
import Derived.Test.YbulkbcagLawZero
import Derived.Deep.Strs
import Derived.Deep.Slices
import Derived.ShutString
import Derived.ChangeOld
namespace Go.Proofs.Ybulkbcag.lawS2658CLookup
open Go.ChangeShapes Go.WideShapes Go.ChangeAt Go.RowKit
set_option linter.unusedVariables false

theorem own : ownKnob Yba.prog.godebug = none := by kernel_rfl
theorem cells30 : Yba.prog.cellsOf 30 = 3 := by kernel_rfl

/-- More than 1024 entries: true at once. -/
theorem law_long (a0 : Option Addr) (len cap : Nat) (q : Int) (w : World) (h : 1024 < len) :
    Calls Yba.prog 3 #[.slice a0 len cap, .int .u8 q] w fun e w' => e = .returned (.bool true) ∧ Below w.heap.size w w' := by
  have h' : (1024 : Int) < (len : Int) := by omega
  go_enter Yba.func3, Yba.ntmps3
  go_wp2
  go_ret
  exact ⟨rfl, Below.refl _ _⟩

theorem list3 {l : List Value} (h : l.length = 3) : ∃ a b c, l = [a, b, c] := by
  match l, h with
  | [a, b, c], _ => exact ⟨a, b, c, rfl⟩
theorem add_zero' (a : Addr) : a.add 0 = a := by
  unfold Addr.add
  simp
/-- What the slice of entries leads to. -/
theorem open_ents {H : Type} {enc : TypeId × Value → H} {W : World} {a0 : Option Addr} {len cap : Nat} {d : DataW H} {p : List MemPlace} (h : DataW.Trod enc Yba.prog W 0 (fun _ => true) true 22 (.slice a0 len cap) d p) (hl : 0 < len) :
    ∃ (sb so : Nat) (es : List Ent), a0 = some ⟨sb, so, none⟩ ∧ es.length = len ∧ Ents W sb so es := by
  obtain ⟨fuel, hf⟩ := h
  rcases Deep.open_slice Yba.underlying22 hf with ⟨hcs, _⟩ | ⟨a, len', cap', m, n, D, Pl, hcs, _, hlc, _, hm, _, hx⟩
  · simp [Value.cells] at hcs
    omega
  simp [Value.cells] at hcs
  obtain ⟨rfl, rfl, rfl⟩ := hcs
  simp only [if_true] at hm
  subst hm
  have one : ∀ i, i < len → ∃ e : Ent, W.cell? (a.add (i * 3)) = some (.int .u8 e.k) ∧ W.cell? ((a.add (i * 3)).add 1) = some (.string e.host) ∧ W.cell? ((a.add (i * 3)).add 2) = some (.int .u16 e.port) ∧ e.ok := by
    intro i hi
    obtain ⟨cs', h1, h2⟩ := hx i (by omega)
    rw [cells30] at h1
    obtain ⟨_, hl3, hcell⟩ := World.cells?_some h1
    obtain ⟨y0, y1, y2, n', _, _, t0, t1, t2⟩ := Deep.trod_struct3 Yba.underlying30 h2
    obtain ⟨c0, c1, c2, rfl⟩ := list3 hl3
    simp [cells5, cells9, cells28] at t0 t1 t2
    obtain ⟨k, e0, _, wk⟩ := DataW.trod_int Yba.underlying5 t0
    obtain ⟨s, e1, _, ws⟩ := DataW.trod_string Yba.underlying9 t1
    obtain ⟨pt, e2, _, wp⟩ := DataW.trod_int Yba.underlying28 t2
    simp at e0 e1 e2
    subst e0 e1 e2
    exact ⟨⟨k, s, pt⟩, by have := hcell 0 (by omega); rw [add_zero'] at this; simpa using this, by simpa using hcell 1 (by omega), by simpa using hcell 2 (by omega), wk, ws, wp⟩
  obtain ⟨e0, h00, _⟩ := one 0 hl
  obtain ⟨b, o, sp⟩ := a
  have hsp : sp = none := by
    have := World.cell?_spot h00
    simpa [Addr.add] using this
  subst hsp
  obtain ⟨f, hf⟩ : ∃ f : Nat → Ent, ∀ i, i < len → W.cell? ((⟨b, o, none⟩ : Addr).add (i * 3)) = some (.int .u8 (f i).k) ∧ W.cell? (((⟨b, o, none⟩ : Addr).add (i * 3)).add 1) = some (.string (f i).host) ∧ W.cell? (((⟨b, o, none⟩ : Addr).add (i * 3)).add 2) = some (.int .u16 (f i).port) ∧ (f i).ok := by
    refine ⟨fun i => if h : i < len then Classical.choose (one i h) else e0, fun i hi => ?_⟩
    simp only [dif_pos hi]
    exact Classical.choose_spec (one i hi)
  refine ⟨b, o, (List.range len).map f, rfl, by simp, fun i hi => ?_⟩
  have hs := hf i (by simpa using hi)
  simp only [add_plain] at hs
  simpa using hs

set_option maxRecDepth 100000 in
theorem lifted (os : Os) (started : os.Started) (H : Type) (enc : TypeId × Value → H) :
    ReturnsInHanded {} Yba.checked os 3 .any (Rows.lawS2658CLookupSpec.pre6 enc Yba.prog Yba.f3 Rows.lawS2658CLookupRow.domain false) (Rows.lawS2658CLookupSpec.post enc Yba.prog Yba.f3 false true false false) := by
  refine returnsInHanded_of_change (C := Yba.checked) own started (by kernel_rfl) Yba.func3
    (ChangeSpec.witness6 (enc := enc) (C := Yba.checked) false ⟨#[], #[.slice none 0 0, .int .u8 0], []⟩ 8 (by kernel_rfl) (by kernel_rfl) (by kernel_rfl) (by kernel_rfl)) ?_
  intro W base args ds gs before hval0 hW hcnd _
  have hval : ∀ (j : Nat) t v, Yba.f3.params[j]? = some t → args[j]? = some v → Value.okWide Yba.prog W .any base t v := hval0
  have hW' := hW
  obtain ⟨p, q, hA0, hV, rfl, hfz, hnd⟩ := hW
  have hA : DataW.TrodAll enc Yba.prog W 0 (fun _ => true) true Yba.f3.params.toList args.toList ds p := hA0
  rw [Yba.params3] at hA hval
  obtain ⟨v0, vs0, d0, ds0, p0, q0, hargs, rfl, rfl, h0, r0⟩ := trodAll_cons hA
  obtain ⟨v1, vs1, d1, ds1, p1, q1, rfl, rfl, rfl, h1, r1⟩ := trodAll_cons r0
  obtain ⟨rfl, rfl, rfl⟩ := trodAll_nil r1
  obtain rfl : args = #[v0, v1] := by cases args; simp_all
  obtain ⟨rfl, rfl⟩ := trodVars_none hV
  obtain ⟨a0, len0, cap0, rfl⟩ := okWide_slice Yba.underlying22 (hval 0 22 v0 rfl rfl)
  have k0 := h0
  have lt0 : ∀ x ∈ p0, x.block < W.heap.size := by obtain ⟨m, hm⟩ := k0; exact DataW.trod_lt m _ _ _ hm
  obtain ⟨a1, rfl, rfl, rfl, w1⟩ := open_int Yba.underlying5 (hval 1 5 v1 rfl rfl) h1
  have walk : Calls Yba.prog 3 #[.slice a0 len0 cap0, .int .u8 a1] W fun e w' => e = .returned (.bool true) ∧ Below W.heap.size W w' := by
    by_cases hz : len0 = 0
    · subst hz
      exact law_zero a0 cap0 a1 W w1
    by_cases hl : 1024 < len0
    · exact law_long a0 len0 cap0 a1 W hl
    · obtain ⟨sb, so, es, rfl, rfl, hes⟩ := open_ents k0 (by omega)
      exact law_some sb so cap0 es a1 W hes (by omega) w1
  clear hA0 hval0
  refine walk.mono fun e W' ⟨he, bel⟩ => ?_
  subst he
  exact ⟨_, rfl, _, _, _, [], _, [], hW', trodAll_mk1 (shut_bool Yba.underlying4 _), (trodAll_cons_mk (Below.trod laidOut (by kernel_rfl) (of_decide_eq_true (by kernel_rfl)) k0 bel lt0) (trodAll_cons_mk (shut_int Yba.underlying5 w1) trodAll_mk0)), rfl, bel.frame _, fun h => by cases h⟩

theorem over : Rows.lawS2658CLookupRow.holds Yba.pinned (OpenSpec.ofChange Rows.lawS2658CLookupSpec) :=
  OpenClaim.holds_of_wide 3 Yba.f3 rfl rfl rfl rfl rfl rfl rfl ⟨rfl, rfl, rfl, rfl, rfl⟩ rfl rfl rfl rfl rfl (by kernel_rfl) Yba.func3 (by kernel_rfl)
    (of_decide_eq_true (by kernel_rfl)) (by unfold Func.isWrapper; first | (rw [if_pos (by decide +kernel)]; kernel_rfl) | (rw [if_neg (by decide +kernel)]; exact ⟨rfl, rfl⟩))
    (fun os started H enc _ => lifted os started H enc)

/-- THE STATEMENT. -/
theorem proved : Rows.LawS2658CLookupSaid :=
  over
end Go.Proofs.Ybulkbcag.lawS2658CLookup
