/-
  OWN TEXT. Small laws on worlds for whole rows (arrays, structs of many cells), and what an ID's cells are.
-/
import Derived.Test.YbulkbcagRows
import Derived.WalkKit
import Derived.ProofKit
import Derived.WalkSpells
import Derived.WalkLawsBesides
import Derived.Handy
import Derived.Maps.OwnSet
import Derived.DeepKeys4
import Derived.Great.BuildSlice
import Derived.Deep.WholeRow
import Derived.Laws.Rows
import Derived.Laws.ResultCell
import Derived.Deep.MidRow
namespace Go.Proofs.Ybulkbcag
open Go.ChangeShapes Go.WideShapes Go.ChangeAt Go.RowKit

/-! ### Blocks of a world that has just grown -/
theorem last_at {W : World} {n : Nat} (h : W.heap.size = n) (o : Obj) : (W.alloc o).heap[n]? = some o := by subst h; exact heap_alloc_last W o
theorem under_at {W : World} {n : Nat} {o : Obj} (h : W.heap[n]? = some o) (o' : Obj) : (W.alloc o').heap[n]? = some o := by
  have hlt := (Array.getElem?_eq_some_iff.1 h).1
  rw [Below.heap_alloc _ _ _ hlt]
  exact h
theorem setRow_at {W : World} {n : Nat} (h : W.heap.size = n) (c c' : Array Value) (t : TypeId) : (W.alloc (.cells c t)).setRow n c' = W.alloc (.cells c' t) := by subst h; exact World.setRow_alloc_new W c c' t
theorem setRow_under {W : World} {n : Nat} (h : n < W.heap.size) (c' : Array Value) (o : Obj) : (W.alloc o).setRow n c' = (W.setRow n c').alloc o := by
  simp only [World.setRow, World.alloc]
  congr 1
  apply Array.ext_getElem?
  intro i
  rw [Array.getElem?_modify, Array.getElem?_push, Array.getElem?_push]
  simp only [Array.size_modify]
  by_cases hi : i = W.heap.size
  · subst hi
    rw [if_pos rfl, if_pos rfl, if_neg (by omega)]
  · rw [if_neg hi, if_neg hi, Array.getElem?_modify]
theorem bcell {W w1 : World} (hb : Below W.heap.size W w1) : (∀ b o, b < W.heap.size → w1.cell? ⟨b, o, none⟩ = W.cell? ⟨b, o, none⟩) ∧ (∀ b o, b < W.heap.size → w1.frozen? ⟨b, o, none⟩ = W.frozen? ⟨b, o, none⟩) :=
  ⟨fun b o h => hb.cell (p := ⟨b, o, none⟩) h, fun b o h => hb.frozen (p := ⟨b, o, none⟩) h⟩
theorem via {w W w1 : World} (h : Below w.heap.size w W) (hb : Below W.heap.size W w1) : Below w.heap.size w w1 := h.trans (hb.mono h.size)

/-! ### Stretches of cells -/
theorem cell_lt {w : World} {b o : Nat} {v : Value} (h : w.cell? ⟨b, o, none⟩ = some v) : b < w.heap.size := World.block_lt_of_cell? w _ h
theorem range_of_block {w : World} {b : Nat} {cs : List Value} {t : TypeId} (h : w.heap[b]? = some (.cells cs.toArray t)) : w.rangeAt b 0 cs := fun j v hv => by
  rw [cell_of_row w b (0 + j) cs.toArray t _ h]
  simpa using hv
theorem there_of_block {w : World} {b n : Nat} {C : Array Value} {t : TypeId} (h : w.heap[b]? = some (.cells C t)) (hn : n ≤ C.size) : w.there b 0 n := fun j hj => by
  constructor
  · rw [cell_of_row w b (0 + j) C t _ h]
    simp
    omega
  · simp [World.frozen?, h]
theorem range_below {B : Nat} {w W : World} (h : Below B w W) {b o : Nat} {cs : List Value} (hb : b < B) (hr : w.rangeAt b o cs) : W.rangeAt b o cs := fun j v hv => (h.cell (p := ⟨b, o + j, none⟩) hb).trans (hr j v hv)
theorem there_below {B : Nat} {w W : World} (h : Below B w W) {b o n : Nat} (hb : b < B) (hr : w.there b o n) : W.there b o n := fun j hj => ⟨by rw [h.cell (p := ⟨b, o + j, none⟩) hb]; exact (hr j hj).1, by rw [h.frozen (p := ⟨b, o + j, none⟩) hb]; exact (hr j hj).2⟩
theorem range_setCell {w : World} {b o : Nat} {cs : List Value} (hr : w.rangeAt b o cs) {a : Addr} (ha : a.block ≠ b) (u : Value) : (w.setCell a u).rangeAt b o cs := fun j v hv => by
  rw [World.cell?_setCell_other _ _ _ _ (fun e => ha (by rw [e]))]
  exact hr j v hv
theorem there_setCell {w : World} {b o n : Nat} (hr : w.there b o n) {a : Addr} (ha : a.block ≠ b) (u : Value) : (w.setCell a u).there b o n := fun j hj => by
  rw [World.cell?_setCell_other _ _ _ _ (fun e => ha (by rw [e]))]
  exact ⟨(hr j hj).1, by simpa using (hr j hj).2⟩
theorem below_both {B : Nat} {w W : World} (h : Below B w W) (a : Addr) (u : Value) : Below B (w.setCell a u) (W.setCell a u) := by
  refine ⟨h.os, h.tape, h.output, by have := h.size; simpa using this, fun k hk => ?_⟩
  simp only [World.setCell, Array.getElem?_modify]
  rw [h.block k hk]
/-- The lock taken and given back: nothing has turned. -/
theorem back_free {w W : World} {a : Addr} {u v : Value} (hs : a.spot = none) (hc : w.cell? a = some v) (h : Below w.heap.size (w.setCell a u) W) : Below w.heap.size w (W.setCell a v) := by
  refine ⟨h.os, h.tape, h.output, by have := h.size; simpa using this, fun k hk => ?_⟩
  have hb := h.block k hk
  by_cases e : k = a.block
  · subst e
    obtain ⟨b, o, sp⟩ := a
    simp only at hs
    subst hs
    simp only [World.setCell, Array.getElem?_modify, if_true] at hb ⊢
    rw [hb]
    unfold World.cell? at hc
    cases hq : w.heap[b]? with
    | none => simp
    | some ob =>
      rw [hq] at hc
      cases ob with
      | cells c t fr =>
        have hv : c[o]? = some v := by simpa using hc
        have e2 : (c.setIfInBounds o u).setIfInBounds o v = c := by
          apply Array.ext_getElem?
          intro i
          rw [Array.getElem?_setIfInBounds, Array.getElem?_setIfInBounds]
          by_cases hi : o = i
          · subst hi
            have := (Array.getElem?_eq_some_iff.1 hv).1
            simp [this]
            exact ((Array.getElem?_eq_some_iff.1 hv).2).symm
          · simp [hi]
        simp [e2]
      | _ => simp at hc
  · rw [Below.heap_setCell _ _ _ _ e, hb, Below.heap_setCell _ _ _ _ e]
theorem below_setCells {B : Nat} {a : World} (b : Nat) : ∀ (vs : List Value) (o : Nat) (w : World), Below B a w → B ≤ b → Below B a (w.setCells b o vs)
  | [], _, _, h, _ => h
  | v :: r, o, w, h, hb => by
    rw [World.setCells]
    exact below_setCells b r (o + 1) _ (h.setCell (p := ⟨b, o, none⟩) hb v) hb

/-! ### An ID: twenty bytes, the first and the last given -/
def idA (k x : Int) : Array Value := #[.int .u8 k, .int .u8 0, .int .u8 0, .int .u8 0, .int .u8 0, .int .u8 0, .int .u8 0, .int .u8 0, .int .u8 0, .int .u8 0, .int .u8 0, .int .u8 0, .int .u8 0, .int .u8 0, .int .u8 0, .int .u8 0, .int .u8 0, .int .u8 0, .int .u8 0, .int .u8 x]
theorem idA_size (k x : Int) : (Yba.prog.info? 26).map (·.size) = some (idA k x).size := by kernel_rfl
theorem idA_one (k x : Int) : (idA k x).all (·.oneCell') = true := by kernel_rfl
theorem laidOut : laidOutB Yba.prog = true := by kernel_rfl
theorem law26 : Maps.Keyed Yba.prog 26 := Maps.Keyed.of_law (deep_law_laid laidOut (m := 5) (by omega) (k := 26) (of_decide_eq_true (by kernel_rfl)) (by kernel_rfl) (by kernel_rfl))

set_option maxHeartbeats 400000 in
theorem id_any (k : Int) (w : World) :
    Calls Yba.prog 5 #[.int .u8 k] w fun e w' => e = .returned (.agg (idA k (bits .xor .u8 k 90))) ∧ Below w.heap.size w w' := by
  go_enter Yba.func5, Yba.ntmps5
  go_wp2_with (first
    | (refine wpList_load_row rfl 26 _ rfl _ rfl 26 (idA k _) _ _ (last_at (by simp) _) Yba.underlying26 rfl (idA_size k _) ?_)
    | (refine wpList_store_rowTo rfl 26 _ _ rfl rfl _ (idA k _) rfl rfl 26 _ (under_at (heap_alloc_last _ _) _) (idA_size k _) (by as_aux_lemma => kernel_rfl) (idA_one k _) ?_; rw [setRow_under (by simp), World.setRow_alloc_new]))
  exact bodyPost_ret (results_cell_row rfl _ _ w.heap.size 26 (idA k (bits .xor .u8 k 90)) _ _ rfl (under_at (heap_alloc_last _ _) _) Yba.underlying26 rfl (idA_size k _)) rfl ⟨rfl, by go_grown⟩
end Go.Proofs.Ybulkbcag
