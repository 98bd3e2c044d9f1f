/-
  OWN TEXT. The book in memory; NewBook (4).
-/
import Derived.Test.YbulkbcagMap
import Derived.BigRegion
namespace Go.Proofs.Ybulkbcag
open Go.ChangeShapes Go.WideShapes Go.ChangeAt Go.RowKit Go.MuLone
/-- The book in memory behind the entries l: the lock is free, the map is field 2. -/
def Book (w W : World) (bk bm : Nat) (l : List Ent) : Prop :=
  Below w.heap.size w W ∧ W.cell? ⟨bk, 0, none⟩ = some (.int .i32 0) ∧ W.frozen? ⟨bk, 0, none⟩ = false ∧ W.cell? ⟨bk, 2, none⟩ = some (.map (some bm)) ∧ bm ≠ bk ∧ w.heap.size ≤ bk ∧ w.heap.size ≤ bm ∧ MapOK w.heap.size W bk bm l
theorem Book.later {w W W' : World} {bk bm : Nat} {l : List Ent} (h : Book w W bk bm l) (hb : Below W.heap.size W W') : Book w W' bk bm l := by
  obtain ⟨h1, h2, h3, h4, h5, h6, h7, h8⟩ := h
  have hlt := cell_lt h2
  exact ⟨via h1 hb, (hb.cell hlt).trans h2, (hb.frozen hlt).trans h3, (hb.cell hlt).trans h4, h5, h6, h7, h8.later hb⟩
theorem frozen_of_row {w : World} {b o : Nat} {C : Array Value} {t : TypeId} (h : w.heap[b]? = some (.cells C t)) : w.frozen? ⟨b, o, none⟩ = false := by simp [World.frozen?, h]
set_option maxHeartbeats 400000 in
theorem new_any (w : World) :
    Calls Yba.prog 4 #[] w fun e w' => e = .returned (.pointer (some ⟨w.heap.size + 4, 0, none⟩)) ∧ Book w w' (w.heap.size + 4) w.heap.size [] := by
  have hmm := @run_makeMap Yba.prog
  go_enter Yba.func4, Yba.ntmps4
  go_wp2
  go_ret
  refine ⟨rfl, by go_grown, ?_, ?_, ?_, by omega, by omega, Nat.le_refl _, MapOK.made _ _ ?_⟩
  · exact (cell_of_row _ _ 0 _ 67 _ (last_at (by simp) _)).trans rfl
  · exact frozen_of_row (last_at (by simp) _)
  · exact (cell_of_row _ _ 2 _ 67 _ (last_at (by simp) _)).trans rfl
  · exact under_at (under_at (under_at (under_at (heap_alloc_last _ _) _) _) _) _
/-- The entries that lie behind the slice. -/
def Ents (w : World) (sb so : Nat) (es : List Ent) : Prop :=
  ∀ i (h : i < es.length), w.cell? ⟨sb, so + i * 3, none⟩ = some (.int .u8 es[i].k) ∧ w.cell? ⟨sb, so + i * 3 + 1, none⟩ = some (.string es[i].host) ∧ w.cell? ⟨sb, so + i * 3 + 2, none⟩ = some (.int .u16 es[i].port) ∧ es[i].ok
end Go.Proofs.Ybulkbcag
