/-
  OWN TEXT. LawS2658CLookup (3) walked: no entry (an empty slice, a nil one).
-/
import Derived.Test.YbulkbcagLaw
namespace Go.Proofs.Ybulkbcag
open Go.ChangeShapes Go.WideShapes Go.ChangeAt Go.RowKit Go.MuLone
set_option linter.unusedSimpArgs false
set_option linter.unusedVariables false
set_option maxRecDepth 100000 in
set_option maxHeartbeats 1000000 in
theorem law_zero (a0 : Option Addr) (cap : Nat) (q : Int) (w : World) (hq : (Lit.int .u8 q).wf = true) :
    Calls Yba.prog 3 #[.slice a0 0 cap, .int .u8 q] w fun e w' => e = .returned (.bool true) ∧ Below w.heap.size w w' := by
  go_enter Yba.func3, Yba.ntmps3
  go_wp2_with (go_at_call 4; refine (new_any _).mono ?_; rintro e w1 ⟨rfl, hB⟩)
  generalize hbk : w.heap.size + 4 = bk
  rw [hbk] at hB
  clear hbk
  go_loopw [6] (fun i wr => ∃ k : Nat, k ≤ 0 ∧ i = .int .i64 k ∧ Book w wr bk w.heap.size (([] : List Ent).take k)) (fun i _ => 0 - (intOf i).toNat)
  case atStart => exact ⟨0, Nat.zero_le _, rfl, by simpa using hB⟩
  case round =>
    obtain ⟨k, hk, rfl, hBk⟩ := hrel
    by_cases hlt : k < 0
    · exact absurd hlt (by simp)
    · obtain rfl : k = 0 := by simpa using hk
      have hBe : Book w wr bk w.heap.size [] := by simpa using hBk
      have HBk : Hid (Book w wr bk w.heap.size []) := hBe
      clear hBe hBk hB hk
      go_wp2_with fail
      refine (id_any q _).mono ?_
      rintro e v2 ⟨rfl, b2⟩
      obtain ⟨wo, rfl⟩ : ∃ wo : World, wo = wr := ⟨_, rfl⟩
      have Hb2 : Hid (Below wo.heap.size wo v2) := b2
      clear b2
      go_wp2_with (first
        | (refine wpList_store_rowTo rfl 26 _ _ rfl rfl _ (idA q (bits .xor .u8 q 90)) rfl rfl 26 _ (heap_alloc_last _ _) (idA_size q _) (by as_aux_lemma => kernel_rfl) (idA_one q _) ?_; rw [World.setRow_alloc_new])
        | (refine wpList_buildTo rfl 33 _ rfl _ rfl ZA.toArray (by as_aux_lemma => kernel_rfl) ?_)
        | (refine wpList_store_rowTo rfl 33 _ _ rfl rfl _ ZA.toArray rfl rfl 33 _ (last_at (by simp) _) (by kernel_rfl) (by as_aux_lemma => kernel_rfl) (all_oneCell_toArray ZA_one) ?_; rw [setRow_at (by simp)]))
      generalize hX : (v2.alloc (.cells (idA q (bits .xor .u8 q 90)) 26)).alloc (.cells ZA.toArray 33) = X
      have hBX : Below wo.heap.size wo X := by rw [← hX]; exact via Hb2.out (by go_grown)
      have hlq : wo.heap.size ≤ v2.heap.size := Hb2.out.size
      have rq : X.rangeAt v2.heap.size 0 (idL q) := by rw [← hX]; exact range_of_block (under_at (heap_alloc_last _ _) _)
      have rw0 : X.rangeAt (v2.heap.size + 1) 0 ZA := by rw [← hX]; exact range_of_block (last_at (by simp) _)
      have tw0 : X.there (v2.heap.size + 1) 0 22 := by rw [← hX]; exact there_of_block (last_at (by simp) _) (by decide)
      clear hX Hb2
      generalize v2.heap.size = qb at *
      have hk26 : Hid ((Yba.prog.info? 26).map (·.size) = some (idL q).length) := by show _ = _; rw [idL_len]; kernel_rfl
      go_loopw [10, 11] (fun f i x => ∃ j : Nat, j ≤ 0 ∧ i = .int .i64 j ∧ f = .bool (lastEnt (([] : List Ent).take j) q).isSome ∧ Below wo.heap.size wo x ∧ x.rangeAt qb 0 (idL q) ∧ x.rangeAt (qb + 1) 0 (adr (lastEnt (([] : List Ent).take j) q)) ∧ x.there (qb + 1) 0 22) (fun _ i _ => 0 - (intOf i).toNat)
      case atStart => exact ⟨0, Nat.zero_le _, rfl, rfl, hBX, rq, rw0, tw0⟩
      case round =>
        obtain ⟨j, hj, rfl, rfl, hBx, rx, rwx, twx⟩ := hrel
        clear hBX rq rw0 tw0
        by_cases hlj : j < 0
        · exact absurd hlj (by simp)
        · obtain rfl : j = 0 := by simpa using hj
          have hL0 : lastEnt (([] : List Ent).take 0) q = lastEnt [] q := by rfl
          rw [hL0] at rwx ⊢
          have HBr : Book w wr bk w.heap.size [] := HBk.out.later hBx
          have hok : ∀ e, lastEnt [] q = some e → e.ok := fun e he => by
            cases he
          have hneq := fun W => neq_adr hok W
          obtain ⟨v, hlk, hfd⟩ := HBr.2.2.2.2.2.2.2.looks hq
          have hmis := HBr.2.2.2.2.2.2.2.misses hq
          clear hL0
          generalize lastEnt [] q = L at *
          have lqb : qb < wr.heap.size := cell_lt (rx 0 (.int .u8 q) rfl)
          have lwb : qb + 1 < wr.heap.size := range_adr_lt rwx
          have lbm : w.heap.size < wr.heap.size := HBr.2.2.2.2.2.2.2.lt
          have hi33 : Hid ((Yba.prog.info? 33).map (·.size) = some (adr L).length) := by show _ = _; rw [adr_len]; kernel_rfl
          have hg : Hid (Calls Yba.prog 6 #[.pointer (some ⟨bk, 0, none⟩), .agg (idL q).toArray] wr fun e w' => e = .returned (.tuple #[.agg (adr L).toArray, .bool L.isSome]) ∧ Below wr.heap.size wr w') :=
            get_any bk w.heap.size (idL q) (adr L) v L.isSome wr HBr.2.1 HBr.2.2.1 HBr.2.2.2.1 hlk lbm HBr.2.2.2.2.1 (idL_len q) hfd (adr_len L) (adr_one L)
          have Hlk : Hid (Looks wr w.heap.size (.agg (idL q).toArray) v L.isSome) := hlk
          have Hfd : Hid (Found wr bk v L.isSome (adr L)) := hfd
          have Hmis : Hid (Looks wr w.heap.size (.agg (missL q).toArray) (.pointer none) false) := hmis
          have HBw : Hid (Book w wr bk w.heap.size []) := HBr
          have Hrx : Hid (wr.rangeAt qb 0 (idL q)) := rx
          have Hrw : Hid (wr.rangeAt (qb + 1) 0 (adr L)) := rwx
          clear hlk hfd hmis HBr hok hBx twx rx rwx
          go_wp2_with (first
            | (refine wpList_load_mid rfl 26 _ rfl _ 0 rfl (idL q) _ Hrx.out Yba.underlying26 rfl hk26.out ?_))
          refine hg.out.mono ?_
          rintro e x1 ⟨rfl, bx1⟩
          have Hx1 : Hid (Below wr.heap.size wr x1) := bx1
          clear bx1 hg
          have lwx : qb + 1 < x1.heap.size := Nat.lt_of_lt_of_le lwb Hx1.out.size
          have Hw1 : Hid (x1.rangeAt (qb + 1) 0 (adr L)) := range_below Hx1.out lwb Hrw.out
          have Hq1 : Hid (x1.rangeAt qb 0 (idL q)) := range_below Hx1.out lqb Hrx.out
          go_wp2_with (first
            | (refine wpList_store_rowTo rfl 33 _ _ rfl rfl _ (adr L).toArray rfl rfl 33 _ (heap_alloc_last _ _) (by simpa using hi33.out) (by simp [adr_len]) (all_oneCell_toArray (adr_one L)) ?_; rw [World.setRow_alloc_new])
            | (refine BigFrame.wpList_want (by rfl) (fun K hK => wp_load_mid 33 (.tmp 12) rfl _ 0 rfl (adr L) _ (range_of_block (heap_alloc_last _ _)) Yba.underlying33 rfl hi33.out (hK _ _ ?_)))
            | (refine BigFrame.wpList_want (by rfl) (fun K hK => wp_load_mid 33 (.tmp 9) rfl _ 0 rfl (adr L) _ (World.rangeAt_alloc Hw1.out _) Yba.underlying33 rfl hi33.out (hK _ _ ?_)))
            | (refine wpList_load_mid rfl 26 (.tmp 8) rfl _ 0 rfl (idL q) _ (World.rangeAt_alloc Hq1.out _) Yba.underlying26 rfl hk26.out ?_))
          have HY : Hid (Below wr.heap.size wr (x1.alloc (.cells (adr L).toArray 33))) := via Hx1.out (by go_grown)
          generalize x1.alloc (.cells (adr L).toArray 33) = Y at *
          clear Hx1 Hw1 Hq1 lwx
          have HBY : Book w Y bk w.heap.size [] := HBw.out.later HY.out
          refine (holds_any bk w.heap.size (idL q) (adr L) v L.isSome Y HBY.2.1 HBY.2.2.1 HBY.2.2.2.1 (Hlk.out.later (HY.out.block _ lbm)) (Nat.lt_of_lt_of_le lbm HY.out.size) HBY.2.2.2.2.1 (idL_len q) (Hfd.out.later HY.out) (adr_len L) (adr_one L)).mono ?_
          rintro e x2 ⟨rfl, bx2⟩
          have Hx2 : Hid (Below wr.heap.size wr x2) := via HY.out bx2
          have Hq2 : Hid (x2.rangeAt qb 0 (idL q)) := range_below Hx2.out lqb Hrx.out
          clear bx2 HBY HY hneq Hlk Hfd
          go_wp2_with (first
            | (refine wpList_load_mid rfl 26 (.tmp 8) rfl _ 0 rfl (idL q) _ Hq2.out Yba.underlying26 rfl hk26.out ?_)
            | (refine wpList_store_rowTo rfl 26 _ _ rfl rfl _ (idL q).toArray rfl rfl 26 _ (heap_alloc_last _ _) (by simpa using hk26.out) (by as_aux_lemma => kernel_rfl) (all_oneCell_toArray (idL_one q)) ?_; rw [World.setRow_alloc_new])
            | (refine wpList_load_mid rfl 26 (.tmp 14) rfl _ 0 rfl (missL q) _ (range_of_block (heap_alloc_last _ _)) Yba.underlying26 rfl hk26.out ?_))
          have HZ : Hid (Below wr.heap.size wr (x2.alloc (.cells ((idL q).set 1 (.int .u8 1)).toArray 26))) := via Hx2.out (by go_grown)
          generalize x2.alloc (.cells ((idL q).set 1 (.int .u8 1)).toArray 26) = Z at *
          have HBZ : Book w Z bk w.heap.size [] := HBw.out.later HZ.out
          refine (get_any bk w.heap.size (missL q) ZA (.pointer none) false Z HBZ.2.1 HBZ.2.2.1 HBZ.2.2.2.1 (Hmis.out.later (HZ.out.block _ lbm)) (Nat.lt_of_lt_of_le lbm HZ.out.size) HBZ.2.2.2.2.1 (missL_len q) (.inr ⟨rfl, rfl⟩) ZA_len ZA_one).mono ?_
          rintro e x3 ⟨rfl, bx3⟩
          have Hx3 : Hid (Below wr.heap.size wr x3) := via HZ.out bx3
          have Hfin : Hid (Below w.heap.size w wr) := HBw.out.1
          have heql := eql_zero
          have hi0 : Hid ((Yba.prog.info? 33).map (·.size) = some ZA.length) := by show _ = _; rw [ZA_len]; kernel_rfl
          have hnot : ∀ (x : Bool) (w : World), (Op.unary .not (.bool x)).run Yba.prog w = .ok (.bool (!x)) w := fun _ _ => rfl
          clear bx3 HBZ HZ Hmis Hx2 Hq2 HBw hi33 Hrx Hrw hK HBk
          go_wp2_with (first
            | (refine wpList_store_rowTo rfl 33 _ _ rfl rfl _ ZA.toArray rfl rfl 33 _ (heap_alloc_last _ _) (by simpa using hi0.out) (by as_aux_lemma => kernel_rfl) (all_oneCell_toArray ZA_one) ?_; rw [World.setRow_alloc_new])
            | (refine BigFrame.wpList_want (by rfl) (fun K hK => wp_load_mid 33 (.tmp 15) rfl _ 0 rfl ZA _ (range_of_block (heap_alloc_last _ _)) Yba.underlying33 rfl hi0.out (hK _ _ ?_)))
            | (refine BigFrame.wpList_want (by rfl) (fun K hK => wp_build_to 33 _ rfl ZA.toArray (by as_aux_lemma => kernel_rfl) (hK _ _ ?_))))
          go_ret
          exact ⟨rfl, (via Hfin.out Hx3.out).alloc (via Hfin.out Hx3.out).size _⟩
end Go.Proofs.Ybulkbcag
