/-
  OWN TEXT. zzs2661bcall (5) by a contract: what it answers, and that nothing old has turned.
-/
import Derived.Test.YbulkbcbwCmp
import Derived.Great.BuildSlice
import Derived.Deep.WholeRow
namespace Go.Proofs.Ybulkbcbw
open Go.ChangeShapes Go.WideShapes Go.ChangeAt Go.RowKit
/-- The cells of the volSearch that zzs2661bcall builds: all zero but Put (cell 10) and mNeg (cell 15). -/
def SV (m p : Bool) : Array Value := #[.int .u64 0, .int .u64 0, .int .u64 0, .int .u64 0, .int .u64 0, .int .u64 0, .int .u64 0, .int .u64 0, .int .u64 0, .int .u64 0, .bool p, .int .u8 0, .int .u64 0, .int .u64 0, .int .i64 0, .bool m, .int .u64 0, .int .u64 0, .int .i64 0, .int .u64 0, .int .u64 0, .int .u64 0, .int .u64 0, .int .u64 0, .int .u64 0, .int .i64 0, .int .u64 0, .int .u64 0, .int .u64 0, .int .u64 0, .int .u64 0, .int .u64 0, .int .u64 0, .int .u64 0, .int .u64 0, .int .u64 0, .int .u64 0, .int .u64 0, .int .u64 0, .int .u64 0, .int .u64 0, .int .u64 0, .int .u64 0, .int .u64 0, .int .u64 0, .int .u64 0, .int .u64 0, .int .u64 0, .int .u64 0, .int .u64 0, .int .u64 0, .int .u64 0, .bool false, .int .u64 0, .int .u64 0, .int .u64 0, .int .u64 0, .int .i64 0, .int .u64 0, .int .u64 0, .int .u64 0, .int .u64 0]
theorem SV_put (m p : Bool) : (SV m p)[10]? = some (.bool p) := rfl
theorem SV_neg (m p : Bool) : (SV m p)[15]? = some (.bool m) := rfl
theorem SV_size (m p : Bool) : (Yba.prog.info? 38).map (·.size) = some (SV m p).size := by kernel_rfl
theorem SV_one (m p : Bool) : (SV m p).all (·.oneCell') = true := by kernel_rfl
def SF (a b c d : Int) : Array Value := #[.int .u64 a, .int .u64 b, .int .u64 c, .int .u64 d, .int .u64 0, .int .u64 0, .int .i64 0, .int .u64 0, .int .u64 0, .int .i64 0, .int .u64 0, .int .u64 0, .int .i64 0, .int .u64 0, .int .u64 0, .int .u64 0, .int .u64 0, .int .i64 0, .int .u64 0, .int .u64 0]
theorem SF_size (a b c d : Int) : (Yba.prog.info? 40).map (·.size) = some (SF a b c d).size := by kernel_rfl
theorem SF_one (a b c d : Int) : (SF a b c d).all (·.oneCell') = true := by kernel_rfl
theorem last_at {W : World} {n : Nat} (h : W.heap.size = n) (o : Obj) : (W.alloc o).heap[n]? = some o := by subst h; exact heap_alloc_last W o
theorem setRow_at {W : World} {n : Nat} (h : W.heap.size = n) (c c' : Array Value) (t : TypeId) : (W.alloc (.cells c t)).setRow n c' = W.alloc (.cells c' t) := by subst h; exact World.setRow_alloc_new W c c' t
set_option maxHeartbeats 1000000 in
theorem call_any (m p : Bool) (a b c d : Int) (w : World) (ha : U a) (hb : U b) (hc : U c) (hd : U d) :
    Calls Yba.prog 5 #[.bool m, .bool p, .int .u64 a, .int .u64 b, .int .u64 c, .int .u64 d] w fun e w' => e = .returned (.bool (aj m p a b c d)) ∧ Below w.heap.size w w' := by
  go_enter Yba.func5, Yba.ntmps5
  go_wp2_with (first
    | (refine wpList_buildTo rfl 38 _ rfl _ rfl (SV m p) (by as_aux_lemma => kernel_rfl) ?_)
    | (refine wpList_store_rowTo rfl 38 _ _ rfl rfl _ (SV m p) rfl rfl 38 _ (heap_alloc_last _ _) (SV_size m p) (by as_aux_lemma => kernel_rfl) (SV_one m p) ?_; rw [World.setRow_alloc_new])
    | (refine wpList_buildTo rfl 40 _ rfl _ rfl (SF a b c d) (by as_aux_lemma => kernel_rfl) ?_)
    | (refine wpList_store_rowTo rfl 40 _ _ rfl rfl _ (SF a b c d) rfl rfl 40 _ (last_at (by simp) _) (SF_size a b c d) (by as_aux_lemma => kernel_rfl) (SF_one a b c d) ?_; rw [setRow_at (by simp)]))
  refine (above_any m p a b c d _ _ _ ha hb hc hd ?_ ?_ ?_ ?_ ?_ ?_).mono ?_
  · exact (World.cell?_alloc_past _ _ _ (by simp)).trans ((cell_of_row _ _ 10 _ 38 _ (heap_alloc_last _ _)).trans (SV_put m p))
  · exact (World.cell?_alloc_past _ _ _ (by simp)).trans ((cell_of_row _ _ 15 _ 38 _ (heap_alloc_last _ _)).trans (SV_neg m p))
  · exact (cell_of_row _ _ 0 _ 40 _ (last_at (by simp) _)).trans rfl
  · exact (cell_of_row _ _ 1 _ 40 _ (last_at (by simp) _)).trans rfl
  · exact (cell_of_row _ _ 2 _ 40 _ (last_at (by simp) _)).trans rfl
  · exact (cell_of_row _ _ 3 _ 40 _ (last_at (by simp) _)).trans rfl
  rintro e w1 ⟨rfl, hb1⟩
  have HB : Hid (Below w.heap.size w w1) := via (by go_grown) hb1
  clear hb1
  go_wp2
  go_ret
  exact ⟨rfl, HB.out⟩
end Go.Proofs.Ybulkbcbw
