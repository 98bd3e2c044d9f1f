/-
  OWN TEXT. LawS2658CLookup (3) walked: entries behind the slice, at most 1024.
-/
import Derived.Test.YbulkbcagBook
namespace Go.Proofs.Ybulkbcag
open Go.ChangeShapes Go.WideShapes Go.ChangeAt Go.RowKit Go.MuLone
set_option linter.unusedSimpArgs false
set_option linter.unusedVariables false
/-- The cells of a bookEntry that holds the address of e and is zero else. -/
def enOf (e : Ent) : List Value := adOf e ++ [.int .i64 0, .int .u64 0, .int .u64 0, .pointer none, .int .u8 0, .int .i64 0, .int .u64 0, .int .i64 0, .pointer none, .int .u64 0, .int .i64 0, .pointer none, .pointer none, .pointer none, .int .i64 0]
theorem built33 (e : Ent) : Yba.prog.built 33 [(0, .agg (idL e.k).toArray), (1, .string e.host), (2, .int .u16 e.port)] = some (adOf e).toArray := by kernel_rfl
theorem built52 (e : Ent) : Yba.prog.built 52 [(0, .agg (adOf e).toArray)] = some (enOf e).toArray := by kernel_rfl
def adQ (q : Int) (e : Ent) : List Value := idL q ++ [.string e.host, .int .u16 e.port]
theorem adQ_eq {q : Int} {e : Ent} (h : e.k = q) : adQ q e = adOf e := by rw [← h]; rfl
theorem adQ_one (q : Int) (e : Ent) : ∀ v ∈ adQ q e, v.oneCell' = true := adOf_one ⟨q, e.host, e.port⟩
theorem range_adr_lt {W : World} {b : Nat} {o : Option Ent} (h : W.rangeAt b 0 (adr o)) : b < W.heap.size := by
  cases o with
  | none => exact cell_lt (h 0 (.int .u8 0) rfl)
  | some e => exact cell_lt (h 0 (.int .u8 e.k) rfl)
theorem wp_build_to {o : Oper} {a : Act} {w : World} {K : Act → World → Prop} {Q : Exit → Act → World → Prop} (t : TypeId) (parts : Array (Nat × Operand)) (ho : o.op = .build t parts) (cells : Array Value)
    (hf : Yba.prog.built t (parts.map fun (i, x) => (i, a.eval x)).toList = some cells) (h : K (a.put o.dst (.agg cells)) w) : o.wp Yba.prog a w K Q := by
  refine wp_build t parts ho (by rw [hf]; rfl) ?_
  rw [hf]
  exact h
theorem range_of_prefix {w : World} {b : Nat} {cs ds : List Value} {t : TypeId} (h : w.heap[b]? = some (.cells (cs ++ ds).toArray t)) : w.rangeAt b 0 cs := fun j v hv => by
  rw [cell_of_row w b (0 + j) (cs ++ ds).toArray t _ h]
  have hj := (List.getElem?_eq_some_iff.1 hv).1
  simp only [Nat.zero_add, List.getElem?_toArray]
  rw [List.getElem?_append_left hj]
  exact hv
theorem range_ne_map {W : World} {bm n eb : Nat} {D : DataW Unit} {k : Int} (h : W.ownsMap Yba.prog 26 RP bm n D) (hr : W.rangeAt eb 0 (idL k)) : eb ≠ bm := by
  rintro rfl
  obtain ⟨es, clock, h1, _⟩ := h
  have := hr 0 (.int .u8 k) rfl
  simp [World.cell?, h1] at this
theorem yields_build {o : Oper} {t : TypeId} {parts : Array (Nat × Operand)} {a : Act} {w : World} {cells : Array Value} (ho : o.op = .build t parts) (h : Yba.prog.built t (parts.map fun (i, x) => (i, a.eval x)).toList = some cells) :
    (execOp a.eval o).run Yba.prog w = .ok (.value (.agg cells)) w := by
  unfold execOp
  simp only [ho, Sem.run_bind, run_build w t _ cells h, Result.andThen_ok, Sem.run_pure]
set_option maxRecDepth 100000 in
set_option maxHeartbeats 1000000 in
theorem law_some (sb so cap : Nat) (es : List Ent) (q : Int) (w : World) (hes : Ents w sb so es) (hn : es.length ≤ 1024) (hq : (Lit.int .u8 q).wf = true) :
    Calls Yba.prog 3 #[.slice (some ⟨sb, so, none⟩) es.length cap, .int .u8 q] w fun e w' => e = .returned (.bool true) ∧ Below w.heap.size w w' := by
  have hn' : ¬ (1024 : Int) < (es.length : Int) := by omega
  go_enter Yba.func3, Yba.ntmps3
  go_wp2_with (go_at_call 4; refine (new_any _).mono ?_; rintro e w1 ⟨rfl, hB⟩)
  generalize hbk : w.heap.size + 4 = bk
  rw [hbk] at hB
  clear hbk
  go_loopw [6] (fun i wr => ∃ k : Nat, k ≤ es.length ∧ i = .int .i64 k ∧ Book w wr bk w.heap.size (es.take k)) (fun i _ => es.length - (intOf i).toNat)
  case atStart => exact ⟨0, Nat.zero_le _, rfl, by simpa using hB⟩
  case round =>
    obtain ⟨k, hk, rfl, hBk⟩ := hrel
    by_cases hlt : k < es.length
    · obtain ⟨e0, e1, e2, eok⟩ := hes k hlt
      have hsb : sb < w.heap.size := cell_lt e0
      have hsn : es.take (k + 1) = es.take k ++ [es[k]] := (List.take_append_getElem hlt).symm
      generalize hE : es[k] = E at *
      have HE : Hid (es.take (k + 1) = es.take k ++ [E]) := hsn
      clear hsn hE
      have d0 := (hBk.1.cell hsb).trans e0
      have d1 := (hBk.1.cell hsb).trans e1
      have d2 := (hBk.1.cell hsb).trans e2
      have hsr : sb < wr.heap.size := Nat.lt_of_lt_of_le hsb hBk.1.size
      have HB : Hid (Book w wr bk w.heap.size (es.take k)) := hBk
      have Hes : Hid (Ents w sb so es) := hes
      clear e0 e1 e2 hBk hB hes
      go_wp2_with fail
      refine (id_any E.k _).mono ?_
      rintro e v1 ⟨rfl, b1⟩
      have d1' := (b1.cell hsr).trans d1
      have d2' := (b1.cell hsr).trans d2
      have HB1 : Hid (Book w v1 bk w.heap.size (es.take k)) := HB.out.later b1
      have hsv : sb < v1.heap.size := Nat.lt_of_lt_of_le hsr b1.size
      clear d0 d1 d2 b1 HB hsr
      go_wp2_with (first
        | (refine wpList_store_rowTo rfl 26 _ _ rfl rfl _ (idA E.k (bits .xor .u8 E.k 90)) rfl rfl 26 _ (heap_alloc_last _ _) (idA_size E.k _) (by as_aux_lemma => kernel_rfl) (idA_one E.k _) ?_; rw [World.setRow_alloc_new]))
      generalize hW2 : v1.alloc (.cells (idA E.k (bits .xor .u8 E.k 90)) 26) = W2
      have HB2 : Book w W2 bk w.heap.size (es.take k) := by rw [← hW2]; exact HB1.out.later (by go_grown)
      have r2 : W2.rangeAt v1.heap.size 0 (idL E.k) := by rw [← hW2]; exact range_of_block (heap_alloc_last _ _)
      have d1 : W2.cell? ⟨sb, so + k * 3 + 1, none⟩ = some (.string E.host) := by rw [← hW2, World.cell?_alloc_past _ _ _ hsv]; exact d1'
      have d2 : W2.cell? ⟨sb, so + k * 3 + 2, none⟩ = some (.int .u16 E.port) := by rw [← hW2, World.cell?_alloc_past _ _ _ hsv]; exact d2'
      have hz2 : W2.heap.size = v1.heap.size + 1 := by rw [← hW2]; simp
      have c2 := HB2.2.2.2.1
      have lbk : bk < W2.heap.size := cell_lt c2
      have lsb : sb < W2.heap.size := cell_lt d1
      clear hW2 HB1 d1' d2' hsv
      generalize v1.heap.size = ib at *
      have HX : Book w (W2.alloc (.cells (enOf E).toArray 52)).drew bk w.heap.size (es.take k) := HB2.later (by go_grown)
      obtain ⟨W3, hrun, hM3, g1, g2, g3, g4, g5⟩ := HX.2.2.2.2.2.2.2.put (nb := W2.heap.size) eok (by simp; unfold maxLen; omega) (range_of_prefix (last_at rfl _)) (by omega) (by have := HB2.1.size; omega) (by simp)
      have bsk : bk ≠ w.heap.size := fun e => HB2.2.2.2.2.1 e.symm
      have nsb : sb ≠ w.heap.size := by omega
      have nib : ib ≠ w.heap.size := fun e => by
        obtain ⟨D, hown, _⟩ := HB2.2.2.2.2.2.2.2
        exact range_ne_map hown r2 e
      have k0 : ∀ b o, b ≠ w.heap.size → W3.cell? ⟨b, o, none⟩ = (W2.alloc (.cells (enOf E).toArray 52)).cell? ⟨b, o, none⟩ := fun b o hb => World.cell?_of_block (w := (W2.alloc (.cells (enOf E).toArray 52)).drew) (a := ⟨b, o, none⟩) (g5 b hb)
      have k1 : ∀ b o, b < W2.heap.size → (W2.alloc (.cells (enOf E).toArray 52)).cell? ⟨b, o, none⟩ = W2.cell? ⟨b, o, none⟩ := fun b o hb => World.cell?_alloc_past _ _ _ hb
      have HB3 : Hid (Book w W3 bk w.heap.size (es.take (k + 1))) := by
        rw [HE.out]
        refine ⟨⟨g1.trans HX.1.os, g2.trans HX.1.tape, g3.trans HX.1.output, by rw [g4]; exact HX.1.size, fun j hj => (g5 j (by omega)).trans (HX.1.block j hj)⟩, (k0 _ _ bsk).trans HX.2.1, ?_, (k0 _ _ bsk).trans HX.2.2.2.1, HB2.2.2.2.2.1, HB2.2.2.2.2.2.1, Nat.le_refl _, hM3⟩
        exact (World.frozen?_of_block (w := (W2.alloc (.cells (enOf E).toArray 52)).drew) (a := ⟨bk, 0, none⟩) (g5 bk bsk)).trans HX.2.2.1
      have s1 : W3.cell? ⟨bk, 2, none⟩ = some (.map (some w.heap.size)) := (k0 _ _ bsk).trans ((k1 _ _ lbk).trans c2)
      have s2 : W3.rangeAt ib 0 (idL E.k) := fun j v hv => (k0 _ _ nib).trans ((k1 _ _ (by omega)).trans (r2 j v hv))
      have s3 : W3.cell? ⟨sb, so + k * 3 + 1, none⟩ = some (.string E.host) := (k0 _ _ nsb).trans ((k1 _ _ lsb).trans d1)
      have s4 : W3.cell? ⟨sb, so + k * 3 + 2, none⟩ = some (.int .u16 E.port) := (k0 _ _ nsb).trans ((k1 _ _ lsb).trans d2)
      have r3 : (W2.alloc (.cells (enOf E).toArray 52)).rangeAt ib 0 (idL E.k) := fun j v hv => (k1 _ _ (by omega)).trans (r2 j v hv)
      have t1 := (k1 _ _ lbk).trans c2
      have t3 := (k1 _ _ lsb).trans d1
      have t4 := (k1 _ _ lsb).trans d2
      clear hz2 k0 k1 g1 g2 g3 g4 g5 hM3 HX HB2 bsk nsb nib
      have hk0 : (0 : Int) ≤ (k : Int) := Int.natCast_nonneg _
      have hkl : (k : Int) < (es.length : Int) := by omega
      have hi26 : (Yba.prog.info? 26).map (·.size) = some (idL E.k).length := by rw [idL_len]; kernel_rfl
      have hu26 := Yba.underlying26
      have b33 : ∀ w, (Instr.build 33 #[(0, .agg (idL E.k).toArray), (1, .string E.host), (2, .int .u16 E.port)]).run Yba.prog w = .ok (.agg (adOf E).toArray) w := fun w => run_build w 33 _ _ (built33 E)
      have b52 : ∀ w, (Instr.build 52 #[(0, .agg (adOf E).toArray)]).run Yba.prog w = .ok (.agg (enOf E).toArray) w := fun w => run_build w 52 _ _ (built52 E)
      refine wp_region_held_drew (S := fun x => x.cell? ⟨bk, 2, none⟩ = some (.map (some w.heap.size)) ∧ x.rangeAt ib 0 (idL E.k) ∧ x.cell? ⟨sb, so + k * 3 + 1, none⟩ = some (.string E.host) ∧ x.cell? ⟨sb, so + k * 3 + 2, none⟩ = some (.int .u16 E.port)) (by kernel_rfl) ⟨c2, r2, d1, d2⟩ (fun hHeld => ?_)
      refine wpAnyH_take (i := 0) (oi := _) (v := .pointer (some ⟨bk, 0, none⟩)) rfl (by kernel_rfl) (by kernel_rfl) (by kernel_rfl) (fun _ _ _ h => h) (Or.inl ⟨by rfl, fun w hSw => by (try dsimp only at hSw); go_simp⟩) hHeld ?_
      (try simp only [List.getElem_toArray, List.getElem_cons_succ, List.getElem_cons_zero, Act.put, List.setIfInBounds_toArray, List.set_cons_zero, List.set_cons_succ])
      refine wpAnyH_take (i := 1) (oi := _) (v := .pointer (some ⟨bk, 0, none⟩)) rfl (by kernel_rfl) (by kernel_rfl) (by kernel_rfl) (fun _ _ _ h => h) (Or.inl ⟨by rfl, fun w hSw => by (try dsimp only at hSw); go_simp⟩) hHeld ?_
      (try simp only [List.getElem_toArray, List.getElem_cons_succ, List.getElem_cons_zero, Act.put, List.setIfInBounds_toArray, List.set_cons_zero, List.set_cons_succ])
      refine wpAnyH_take (i := 2) (oi := _) (v := .pointer (some ⟨bk, 2, none⟩)) rfl (by kernel_rfl) (by kernel_rfl) (by kernel_rfl) (fun _ _ _ h => h) (Or.inl ⟨by rfl, fun w hSw => by (try dsimp only at hSw); go_simp⟩) hHeld ?_
      (try simp only [List.getElem_toArray, List.getElem_cons_succ, List.getElem_cons_zero, Act.put, List.setIfInBounds_toArray, List.set_cons_zero, List.set_cons_succ])
      refine wpAnyH_take (i := 3) (oi := _) (v := .map (some w.heap.size)) rfl (by kernel_rfl) (by kernel_rfl) (by kernel_rfl) (fun _ _ _ h => h) (Or.inl ⟨by rfl, fun w hSw => by (try dsimp only at hSw); go_simp⟩) hHeld ?_
      (try simp only [List.getElem_toArray, List.getElem_cons_succ, List.getElem_cons_zero, Act.put, List.setIfInBounds_toArray, List.set_cons_zero, List.set_cons_succ])
      refine wpAnyH_take (i := 4) (oi := _) (v := _) rfl (by kernel_rfl) (by kernel_rfl) (by kernel_rfl) (fun _ _ _ h => h) (yieldsIf_load_mid (by rfl) 26 _ rfl ib 0 rfl (idL E.k) _ (fun w hSw => hSw.2.1) Yba.underlying26 rfl hi26) hHeld ?_
      (try simp only [List.getElem_toArray, List.getElem_cons_succ, List.getElem_cons_zero, Act.put, List.setIfInBounds_toArray, List.set_cons_zero, List.set_cons_succ])
      refine wpAnyH_take (i := 5) (oi := _) (v := _) rfl (by kernel_rfl) (by kernel_rfl) (by kernel_rfl) (fun _ _ _ h => h) (yieldsIf_load_mid (by rfl) 26 _ rfl ib 0 rfl (idL E.k) _ (fun w hSw => hSw.2.1) Yba.underlying26 rfl hi26) hHeld ?_
      (try simp only [List.getElem_toArray, List.getElem_cons_succ, List.getElem_cons_zero, Act.put, List.setIfInBounds_toArray, List.set_cons_zero, List.set_cons_succ])
      refine wpAnyH_take (i := 6) (oi := _) (v := .slice (some ⟨sb, so, none⟩) es.length cap) rfl (by kernel_rfl) (by kernel_rfl) (by kernel_rfl) (fun _ _ _ h => h) (Or.inl ⟨by rfl, fun w hSw => by (try dsimp only at hSw); go_simp⟩) hHeld ?_
      (try simp only [List.getElem_toArray, List.getElem_cons_succ, List.getElem_cons_zero, Act.put, List.setIfInBounds_toArray, List.set_cons_zero, List.set_cons_succ])
      refine wpAnyH_take (i := 7) (oi := _) (v := .int .i64 k) rfl (by kernel_rfl) (by kernel_rfl) (by kernel_rfl) (fun _ _ _ h => h) (Or.inl ⟨by rfl, fun w hSw => by (try dsimp only at hSw); go_simp⟩) hHeld ?_
      (try simp only [List.getElem_toArray, List.getElem_cons_succ, List.getElem_cons_zero, Act.put, List.setIfInBounds_toArray, List.set_cons_zero, List.set_cons_succ])
      refine wpAnyH_take (i := 8) (oi := _) (v := .pointer (some ⟨sb, so + k * 3, none⟩)) rfl (by kernel_rfl) (by kernel_rfl) (by kernel_rfl) (fun _ _ _ h => h) (Or.inl ⟨by rfl, fun w hSw => by (try dsimp only at hSw); go_simp⟩) hHeld ?_
      (try simp only [List.getElem_toArray, List.getElem_cons_succ, List.getElem_cons_zero, Act.put, List.setIfInBounds_toArray, List.set_cons_zero, List.set_cons_succ])
      refine wpAnyH_take (i := 9) (oi := _) (v := .pointer (some ⟨sb, so + k * 3 + 1, none⟩)) rfl (by kernel_rfl) (by kernel_rfl) (by kernel_rfl) (fun _ _ _ h => h) (Or.inl ⟨by rfl, fun w hSw => by (try dsimp only at hSw); go_simp⟩) hHeld ?_
      (try simp only [List.getElem_toArray, List.getElem_cons_succ, List.getElem_cons_zero, Act.put, List.setIfInBounds_toArray, List.set_cons_zero, List.set_cons_succ])
      refine wpAnyH_take (i := 10) (oi := _) (v := .string E.host) rfl (by kernel_rfl) (by kernel_rfl) (by kernel_rfl) (fun _ _ _ h => h) (Or.inl ⟨by rfl, fun w hSw => by (try dsimp only at hSw); go_simp⟩) hHeld ?_
      (try simp only [List.getElem_toArray, List.getElem_cons_succ, List.getElem_cons_zero, Act.put, List.setIfInBounds_toArray, List.set_cons_zero, List.set_cons_succ])
      refine wpAnyH_take (i := 11) (oi := _) (v := .slice (some ⟨sb, so, none⟩) es.length cap) rfl (by kernel_rfl) (by kernel_rfl) (by kernel_rfl) (fun _ _ _ h => h) (Or.inl ⟨by rfl, fun w hSw => by (try dsimp only at hSw); go_simp⟩) hHeld ?_
      (try simp only [List.getElem_toArray, List.getElem_cons_succ, List.getElem_cons_zero, Act.put, List.setIfInBounds_toArray, List.set_cons_zero, List.set_cons_succ])
      refine wpAnyH_take (i := 12) (oi := _) (v := .int .i64 k) rfl (by kernel_rfl) (by kernel_rfl) (by kernel_rfl) (fun _ _ _ h => h) (Or.inl ⟨by rfl, fun w hSw => by (try dsimp only at hSw); go_simp⟩) hHeld ?_
      (try simp only [List.getElem_toArray, List.getElem_cons_succ, List.getElem_cons_zero, Act.put, List.setIfInBounds_toArray, List.set_cons_zero, List.set_cons_succ])
      refine wpAnyH_take (i := 13) (oi := _) (v := .pointer (some ⟨sb, so + k * 3, none⟩)) rfl (by kernel_rfl) (by kernel_rfl) (by kernel_rfl) (fun _ _ _ h => h) (Or.inl ⟨by rfl, fun w hSw => by (try dsimp only at hSw); go_simp⟩) hHeld ?_
      (try simp only [List.getElem_toArray, List.getElem_cons_succ, List.getElem_cons_zero, Act.put, List.setIfInBounds_toArray, List.set_cons_zero, List.set_cons_succ])
      refine wpAnyH_take (i := 14) (oi := _) (v := .pointer (some ⟨sb, so + k * 3 + 2, none⟩)) rfl (by kernel_rfl) (by kernel_rfl) (by kernel_rfl) (fun _ _ _ h => h) (Or.inl ⟨by rfl, fun w hSw => by (try dsimp only at hSw); go_simp⟩) hHeld ?_
      (try simp only [List.getElem_toArray, List.getElem_cons_succ, List.getElem_cons_zero, Act.put, List.setIfInBounds_toArray, List.set_cons_zero, List.set_cons_succ])
      refine wpAnyH_take (i := 15) (oi := _) (v := .int .u16 E.port) rfl (by kernel_rfl) (by kernel_rfl) (by kernel_rfl) (fun _ _ _ h => h) (Or.inl ⟨by rfl, fun w hSw => by (try dsimp only at hSw); go_simp⟩) hHeld ?_
      (try simp only [List.getElem_toArray, List.getElem_cons_succ, List.getElem_cons_zero, Act.put, List.setIfInBounds_toArray, List.set_cons_zero, List.set_cons_succ])
      refine wpAnyH_take (i := 16) (oi := _) (v := .agg (adOf E).toArray) rfl (by kernel_rfl) (by kernel_rfl) (by kernel_rfl) (fun _ _ _ h => h) (Or.inl ⟨by rfl, fun w hSw => yields_build rfl (by kernel_rfl)⟩) hHeld ?_
      (try simp only [List.getElem_toArray, List.getElem_cons_succ, List.getElem_cons_zero, Act.put, List.setIfInBounds_toArray, List.set_cons_zero, List.set_cons_succ])
      refine wpAnyH_take (i := 17) (oi := _) (v := .agg (enOf E).toArray) rfl (by kernel_rfl) (by kernel_rfl) (by kernel_rfl) (fun _ _ _ h => h) (Or.inl ⟨by rfl, fun w hSw => yields_build rfl (by kernel_rfl)⟩) hHeld ?_
      (try simp only [List.getElem_toArray, List.getElem_cons_succ, List.getElem_cons_zero, Act.put, List.setIfInBounds_toArray, List.set_cons_zero, List.set_cons_succ])
      refine wpAnyH_ready (rs := [18]) (by kernel_rfl) (by simp) ?_
      refine AllReadyH.cons (o := _) rfl (fun K hK => ?_) AllReadyH.nil
      go_simp
      refine hK.out _ _ ⟨t1, r3, t3, t4⟩ (fun hHeld2 => ?_)
      clear hK
      refine wpAnyH_ready (rs := [19]) (by kernel_rfl) (by simp) ?_
      refine AllReadyH.cons (o := _) rfl (fun K hK => ?_) AllReadyH.nil
      go_simp
      refine hK.out _ _ ⟨s1, s2, s3, s4⟩ (fun _ => ?_)
      refine wpAnyH_done (by kernel_rfl) ?_ _
      clear hK hHeld hHeld2 hrun s1 s2 s3 s4 t1 t3 t4 r2 r3 c2 d1 d2 b33 b52 hi26 hu26
      go_wp2_with fail
      go_roundw
      case rel => exact ⟨k + 1, by omega, by go_num, HB3.out⟩
      case measure => simp [intOf]; omega
    · obtain rfl : k = es.length := by omega
      have hBe : Book w wr bk w.heap.size es := by simpa using hBk
      have HBk : Hid (Book w wr bk w.heap.size es) := hBe
      have Hes : Hid (Ents w sb so es) := hes
      clear hBe hBk hes hB hk
      go_wp2_with fail
      refine (id_any q _).mono ?_
      rintro e v2 ⟨rfl, b2⟩
      obtain ⟨wo, rfl⟩ : ∃ wo : World, wo = wr := ⟨_, rfl⟩
      have Hb2 : Hid (Below wo.heap.size wo v2) := b2
      clear b2
      go_wp2_with (first
        | (refine wpList_store_rowTo rfl 26 _ _ rfl rfl _ (idA q (bits .xor .u8 q 90)) rfl rfl 26 _ (heap_alloc_last _ _) (idA_size q _) (by as_aux_lemma => kernel_rfl) (idA_one q _) ?_; rw [World.setRow_alloc_new])
        | (refine wpList_buildTo rfl 33 _ rfl _ rfl ZA.toArray (by as_aux_lemma => kernel_rfl) ?_)
        | (refine wpList_store_rowTo rfl 33 _ _ rfl rfl _ ZA.toArray rfl rfl 33 _ (last_at (by simp) _) (by kernel_rfl) (by as_aux_lemma => kernel_rfl) (all_oneCell_toArray ZA_one) ?_; rw [setRow_at (by simp)]))
      generalize hX : (v2.alloc (.cells (idA q (bits .xor .u8 q 90)) 26)).alloc (.cells ZA.toArray 33) = X
      have hBX : Below wo.heap.size wo X := by rw [← hX]; exact via Hb2.out (by go_grown)
      have hlq : wo.heap.size ≤ v2.heap.size := Hb2.out.size
      have rq : X.rangeAt v2.heap.size 0 (idL q) := by rw [← hX]; exact range_of_block (under_at (heap_alloc_last _ _) _)
      have rw0 : X.rangeAt (v2.heap.size + 1) 0 ZA := by rw [← hX]; exact range_of_block (last_at (by simp) _)
      have tw0 : X.there (v2.heap.size + 1) 0 22 := by rw [← hX]; exact there_of_block (last_at (by simp) _) (by decide)
      clear hX Hb2
      generalize v2.heap.size = qb at *
      have hk26 : Hid ((Yba.prog.info? 26).map (·.size) = some (idL q).length) := by show _ = _; rw [idL_len]; kernel_rfl
      go_loopw [10, 11] (fun f i x => ∃ j : Nat, j ≤ es.length ∧ i = .int .i64 j ∧ f = .bool (lastEnt (es.take j) q).isSome ∧ Below wo.heap.size wo x ∧ x.rangeAt qb 0 (idL q) ∧ x.rangeAt (qb + 1) 0 (adr (lastEnt (es.take j) q)) ∧ x.there (qb + 1) 0 22) (fun _ i _ => es.length - (intOf i).toNat)
      case atStart => exact ⟨0, Nat.zero_le _, rfl, rfl, hBX, rq, rw0, tw0⟩
      case round =>
        obtain ⟨j, hj, rfl, rfl, hBx, rx, rwx, twx⟩ := hrel
        clear hBX rq rw0 tw0
        by_cases hlj : j < es.length
        · obtain ⟨e0, e1, e2, eok⟩ := Hes.out j hlj
          have hsb : sb < w.heap.size := cell_lt e0
          have hsn : es.take (j + 1) = es.take j ++ [es[j]] := (List.take_append_getElem hlj).symm
          generalize hE : es[j] = E at *
          have hle : lastEnt (es.take (j + 1)) q = if E.k = q then some E else lastEnt (es.take j) q := by rw [hsn, lastEnt_snoc]
          clear hsn hE
          have hbw : Below w.heap.size w wr := HBk.out.1.trans (hBx.mono HBk.out.1.size)
          have d0 := (hbw.cell hsb).trans e0
          have d1 := (hbw.cell hsb).trans e1
          have d2 := (hbw.cell hsb).trans e2
          have hso : sb < wo.heap.size := Nat.lt_of_lt_of_le hsb HBk.out.1.size
          have hk0 : (0 : Int) ≤ (j : Int) := Int.natCast_nonneg _
          have hkl : (j : Int) < (es.length : Int) := by omega
          clear e0 e1 e2 hbw
          generalize hl0 : lastEnt (es.take j) q = L at *
          by_cases hEq : E.k = q
          · have hEb : (E.k == q) = true := by simpa using hEq
            rw [if_pos hEq] at hle
            have HE : Hid (E.k = q) := hEq
            have Hle : Hid (lastEnt (es.take (j + 1)) q = some E) := hle
            have Hl0 : Hid (lastEnt (es.take j) q = L) := hl0
            have HBx : Hid (Below wo.heap.size wo wr) := hBx
            clear hEq hle hl0 hBx rwx
            go_wp2_with fail
            refine wp_region_held_drew (S := fun x => x.rangeAt qb 0 (idL q) ∧ x.cell? ⟨sb, so + j * 3 + 1, none⟩ = some (.string E.host) ∧ x.cell? ⟨sb, so + j * 3 + 2, none⟩ = some (.int .u16 E.port)) (by kernel_rfl) ⟨rx, d1, d2⟩ (fun hHeld => ?_)
            refine wpAnyH_take (i := 0) (oi := _) (v := _) rfl (by kernel_rfl) (by kernel_rfl) (by kernel_rfl) (fun _ _ _ h => h) (yieldsIf_load_mid (by rfl) 26 _ rfl qb 0 rfl (idL q) _ (fun w hSw => hSw.1) Yba.underlying26 rfl hk26.out) hHeld ?_
            (try simp only [List.getElem_toArray, List.getElem_cons_succ, List.getElem_cons_zero, Act.put, List.setIfInBounds_toArray, List.set_cons_zero, List.set_cons_succ])
            refine wpAnyH_take (i := 1) (oi := _) (v := .slice (some ⟨sb, so, none⟩) es.length cap) rfl (by kernel_rfl) (by kernel_rfl) (by kernel_rfl) (fun _ _ _ h => h) (Or.inl ⟨by rfl, fun w hSw => by (try dsimp only at hSw); go_simp⟩) hHeld ?_
            (try simp only [List.getElem_toArray, List.getElem_cons_succ, List.getElem_cons_zero, Act.put, List.setIfInBounds_toArray, List.set_cons_zero, List.set_cons_succ])
            refine wpAnyH_take (i := 2) (oi := _) (v := .int .i64 j) rfl (by kernel_rfl) (by kernel_rfl) (by kernel_rfl) (fun _ _ _ h => h) (Or.inl ⟨by rfl, fun w hSw => by (try dsimp only at hSw); go_simp⟩) hHeld ?_
            (try simp only [List.getElem_toArray, List.getElem_cons_succ, List.getElem_cons_zero, Act.put, List.setIfInBounds_toArray, List.set_cons_zero, List.set_cons_succ])
            refine wpAnyH_take (i := 3) (oi := _) (v := .pointer (some ⟨sb, so + j * 3, none⟩)) rfl (by kernel_rfl) (by kernel_rfl) (by kernel_rfl) (fun _ _ _ h => h) (Or.inl ⟨by rfl, fun w hSw => by (try dsimp only at hSw); go_simp⟩) hHeld ?_
            (try simp only [List.getElem_toArray, List.getElem_cons_succ, List.getElem_cons_zero, Act.put, List.setIfInBounds_toArray, List.set_cons_zero, List.set_cons_succ])
            refine wpAnyH_take (i := 4) (oi := _) (v := .pointer (some ⟨sb, so + j * 3 + 1, none⟩)) rfl (by kernel_rfl) (by kernel_rfl) (by kernel_rfl) (fun _ _ _ h => h) (Or.inl ⟨by rfl, fun w hSw => by (try dsimp only at hSw); go_simp⟩) hHeld ?_
            (try simp only [List.getElem_toArray, List.getElem_cons_succ, List.getElem_cons_zero, Act.put, List.setIfInBounds_toArray, List.set_cons_zero, List.set_cons_succ])
            refine wpAnyH_take (i := 5) (oi := _) (v := .string E.host) rfl (by kernel_rfl) (by kernel_rfl) (by kernel_rfl) (fun _ _ _ h => h) (Or.inl ⟨by rfl, fun w hSw => by (try dsimp only at hSw); go_simp⟩) hHeld ?_
            (try simp only [List.getElem_toArray, List.getElem_cons_succ, List.getElem_cons_zero, Act.put, List.setIfInBounds_toArray, List.set_cons_zero, List.set_cons_succ])
            refine wpAnyH_take (i := 6) (oi := _) (v := .slice (some ⟨sb, so, none⟩) es.length cap) rfl (by kernel_rfl) (by kernel_rfl) (by kernel_rfl) (fun _ _ _ h => h) (Or.inl ⟨by rfl, fun w hSw => by (try dsimp only at hSw); go_simp⟩) hHeld ?_
            (try simp only [List.getElem_toArray, List.getElem_cons_succ, List.getElem_cons_zero, Act.put, List.setIfInBounds_toArray, List.set_cons_zero, List.set_cons_succ])
            refine wpAnyH_take (i := 7) (oi := _) (v := .int .i64 j) rfl (by kernel_rfl) (by kernel_rfl) (by kernel_rfl) (fun _ _ _ h => h) (Or.inl ⟨by rfl, fun w hSw => by (try dsimp only at hSw); go_simp⟩) hHeld ?_
            (try simp only [List.getElem_toArray, List.getElem_cons_succ, List.getElem_cons_zero, Act.put, List.setIfInBounds_toArray, List.set_cons_zero, List.set_cons_succ])
            refine wpAnyH_take (i := 8) (oi := _) (v := .pointer (some ⟨sb, so + j * 3, none⟩)) rfl (by kernel_rfl) (by kernel_rfl) (by kernel_rfl) (fun _ _ _ h => h) (Or.inl ⟨by rfl, fun w hSw => by (try dsimp only at hSw); go_simp⟩) hHeld ?_
            (try simp only [List.getElem_toArray, List.getElem_cons_succ, List.getElem_cons_zero, Act.put, List.setIfInBounds_toArray, List.set_cons_zero, List.set_cons_succ])
            refine wpAnyH_take (i := 9) (oi := _) (v := .pointer (some ⟨sb, so + j * 3 + 2, none⟩)) rfl (by kernel_rfl) (by kernel_rfl) (by kernel_rfl) (fun _ _ _ h => h) (Or.inl ⟨by rfl, fun w hSw => by (try dsimp only at hSw); go_simp⟩) hHeld ?_
            (try simp only [List.getElem_toArray, List.getElem_cons_succ, List.getElem_cons_zero, Act.put, List.setIfInBounds_toArray, List.set_cons_zero, List.set_cons_succ])
            refine wpAnyH_take (i := 10) (oi := _) (v := .int .u16 E.port) rfl (by kernel_rfl) (by kernel_rfl) (by kernel_rfl) (fun _ _ _ h => h) (Or.inl ⟨by rfl, fun w hSw => by (try dsimp only at hSw); go_simp⟩) hHeld ?_
            (try simp only [List.getElem_toArray, List.getElem_cons_succ, List.getElem_cons_zero, Act.put, List.setIfInBounds_toArray, List.set_cons_zero, List.set_cons_succ])
            refine wpAnyH_take (i := 11) (oi := _) (v := .agg (adQ q E).toArray) rfl (by kernel_rfl) (by kernel_rfl) (by kernel_rfl) (fun _ _ _ h => h) (Or.inl ⟨by rfl, fun w hSw => yields_build rfl (by kernel_rfl)⟩) hHeld ?_
            (try simp only [List.getElem_toArray, List.getElem_cons_succ, List.getElem_cons_zero, Act.put, List.setIfInBounds_toArray, List.set_cons_zero, List.set_cons_succ])
            refine wpAnyH_ready (rs := [12]) (by kernel_rfl) (by simp) ?_
            refine AllReadyH.cons (o := _) rfl (fun K hK => ?_) AllReadyH.nil
            rw [if_pos (by rfl)]
            refine wp_store_mid 33 _ _ rfl (qb + 1) 0 (adQ q E).toArray rfl rfl ((World.there_drew _ _ _ _).2 twx) (by kernel_rfl) (all_oneCell_toArray (adQ_one q E)) ?_
            have nqs : qb + 1 ≠ sb := by omega
            refine hK.out _ _ ⟨World.rangeAt_setCells_apart ((World.rangeAt_drew _ _ _ _).2 rx) _ _ _ (.inl (by omega)), (World.cell?_setCells_out _ _ _ _ _ (fun hb _ => absurd hb.symm nqs)).trans d1, (World.cell?_setCells_out _ _ _ _ _ (fun hb _ => absurd hb.symm nqs)).trans d2⟩ (fun _ => ?_)
            refine wpAnyH_done (by kernel_rfl) ?_ _
            have z1 : Hid (Below wo.heap.size wo (wr.drew.setCells (qb + 1) 0 (adQ q E))) := below_setCells _ _ _ _ HBx.out.drew (by omega)
            have z2 : Hid ((wr.drew.setCells (qb + 1) 0 (adQ q E)).rangeAt qb 0 (idL q)) := World.rangeAt_setCells_apart ((World.rangeAt_drew _ _ _ _).2 rx) _ _ _ (.inl (by omega))
            have z3 : Hid ((wr.drew.setCells (qb + 1) 0 (adQ q E)).rangeAt (qb + 1) 0 (adQ q E)) := World.rangeAt_setCells_same _ _ _ _ ((World.there_drew _ _ _ _).2 twx)
            have z4 : Hid ((wr.drew.setCells (qb + 1) 0 (adQ q E)).there (qb + 1) 0 22) := World.there_setCells ((World.there_drew _ _ _ _).2 twx) _ _ _
            simp only [List.toList_toArray]
            generalize wr.drew.setCells (qb + 1) 0 (adQ q E) = X at *
            clear hK hHeld d0 d1 d2 rx twx
            go_wp2_with fail
            go_roundw
            case rel => exact ⟨j + 1, by omega, by go_num, by rw [Hle.out]; rfl, z1.out, z2.out, by rw [Hle.out]; show X.rangeAt _ _ (adOf E); rw [← adQ_eq HE.out]; exact z3.out, z4.out⟩
            case measure => simp [intOf]; omega
          · have hEb : (E.k == q) = false := by simpa using hEq
            rw [if_neg hEq] at hle
            have Hle : Hid (lastEnt (es.take (j + 1)) q = L) := hle
            have z1 : Hid (Below wo.heap.size wo wr) := hBx
            have z2 : Hid (wr.rangeAt qb 0 (idL q)) := rx
            have z3 : Hid (wr.rangeAt (qb + 1) 0 (adr L)) := rwx
            have z4 : Hid (wr.there (qb + 1) 0 22) := twx
            clear hEq hle hl0 hBx rx rwx twx
            go_wp2_with fail
            go_roundw
            case rel => exact ⟨j + 1, by omega, by go_num, by rw [Hle.out], z1.out, z2.out, by rw [Hle.out]; exact z3.out, z4.out⟩
            case measure => simp [intOf]; omega
        · obtain rfl : j = es.length := by omega
          have hL0 : lastEnt (es.take es.length) q = lastEnt es q := by rw [List.take_length]
          rw [hL0] at rwx ⊢
          have HBr : Book w wr bk w.heap.size es := HBk.out.later hBx
          have hok : ∀ e, lastEnt es q = some e → e.ok := fun e he => by
            obtain ⟨m, hm, rfl⟩ := List.mem_iff_getElem.1 (lastEnt_mem es q he).1
            exact (Hes.out m hm).2.2.2
          have hneq := fun W => neq_adr hok W
          obtain ⟨v, hlk, hfd⟩ := HBr.2.2.2.2.2.2.2.looks hq
          have hmis := HBr.2.2.2.2.2.2.2.misses hq
          clear hL0
          generalize lastEnt es q = L at *
          have lqb : qb < wr.heap.size := cell_lt (rx 0 (.int .u8 q) rfl)
          have lwb : qb + 1 < wr.heap.size := range_adr_lt rwx
          have lbm : w.heap.size < wr.heap.size := HBr.2.2.2.2.2.2.2.lt
          have hi33 : Hid ((Yba.prog.info? 33).map (·.size) = some (adr L).length) := by show _ = _; rw [adr_len]; kernel_rfl
          have hg : Hid (Calls Yba.prog 6 #[.pointer (some ⟨bk, 0, none⟩), .agg (idL q).toArray] wr fun e w' => e = .returned (.tuple #[.agg (adr L).toArray, .bool L.isSome]) ∧ Below wr.heap.size wr w') :=
            get_any bk w.heap.size (idL q) (adr L) v L.isSome wr HBr.2.1 HBr.2.2.1 HBr.2.2.2.1 hlk lbm HBr.2.2.2.2.1 (idL_len q) hfd (adr_len L) (adr_one L)
          have Hlk : Hid (Looks wr w.heap.size (.agg (idL q).toArray) v L.isSome) := hlk
          have Hfd : Hid (Found wr bk v L.isSome (adr L)) := hfd
          have Hmis : Hid (Looks wr w.heap.size (.agg (missL q).toArray) (.pointer none) false) := hmis
          have HBw : Hid (Book w wr bk w.heap.size es) := HBr
          have Hrx : Hid (wr.rangeAt qb 0 (idL q)) := rx
          have Hrw : Hid (wr.rangeAt (qb + 1) 0 (adr L)) := rwx
          clear hlk hfd hmis HBr hok hBx twx rx rwx
          go_wp2_with (first
            | (refine wpList_load_mid rfl 26 _ rfl _ 0 rfl (idL q) _ Hrx.out Yba.underlying26 rfl hk26.out ?_))
          refine hg.out.mono ?_
          rintro e x1 ⟨rfl, bx1⟩
          have Hx1 : Hid (Below wr.heap.size wr x1) := bx1
          clear bx1 hg
          have lwx : qb + 1 < x1.heap.size := Nat.lt_of_lt_of_le lwb Hx1.out.size
          have Hw1 : Hid (x1.rangeAt (qb + 1) 0 (adr L)) := range_below Hx1.out lwb Hrw.out
          have Hq1 : Hid (x1.rangeAt qb 0 (idL q)) := range_below Hx1.out lqb Hrx.out
          go_wp2_with (first
            | (refine wpList_store_rowTo rfl 33 _ _ rfl rfl _ (adr L).toArray rfl rfl 33 _ (heap_alloc_last _ _) (by simpa using hi33.out) (by simp [adr_len]) (all_oneCell_toArray (adr_one L)) ?_; rw [World.setRow_alloc_new])
            | (refine BigFrame.wpList_want (by rfl) (fun K hK => wp_load_mid 33 (.tmp 12) rfl _ 0 rfl (adr L) _ (range_of_block (heap_alloc_last _ _)) Yba.underlying33 rfl hi33.out (hK _ _ ?_)))
            | (refine BigFrame.wpList_want (by rfl) (fun K hK => wp_load_mid 33 (.tmp 9) rfl _ 0 rfl (adr L) _ (World.rangeAt_alloc Hw1.out _) Yba.underlying33 rfl hi33.out (hK _ _ ?_)))
            | (refine wpList_load_mid rfl 26 (.tmp 8) rfl _ 0 rfl (idL q) _ (World.rangeAt_alloc Hq1.out _) Yba.underlying26 rfl hk26.out ?_))
          have HY : Hid (Below wr.heap.size wr (x1.alloc (.cells (adr L).toArray 33))) := via Hx1.out (by go_grown)
          generalize x1.alloc (.cells (adr L).toArray 33) = Y at *
          clear Hx1 Hw1 Hq1 lwx
          have HBY : Book w Y bk w.heap.size es := HBw.out.later HY.out
          refine (holds_any bk w.heap.size (idL q) (adr L) v L.isSome Y HBY.2.1 HBY.2.2.1 HBY.2.2.2.1 (Hlk.out.later (HY.out.block _ lbm)) (Nat.lt_of_lt_of_le lbm HY.out.size) HBY.2.2.2.2.1 (idL_len q) (Hfd.out.later HY.out) (adr_len L) (adr_one L)).mono ?_
          rintro e x2 ⟨rfl, bx2⟩
          have Hx2 : Hid (Below wr.heap.size wr x2) := via HY.out bx2
          have Hq2 : Hid (x2.rangeAt qb 0 (idL q)) := range_below Hx2.out lqb Hrx.out
          clear bx2 HBY HY hneq Hlk Hfd
          go_wp2_with (first
            | (refine wpList_load_mid rfl 26 (.tmp 8) rfl _ 0 rfl (idL q) _ Hq2.out Yba.underlying26 rfl hk26.out ?_)
            | (refine wpList_store_rowTo rfl 26 _ _ rfl rfl _ (idL q).toArray rfl rfl 26 _ (heap_alloc_last _ _) (by simpa using hk26.out) (by as_aux_lemma => kernel_rfl) (all_oneCell_toArray (idL_one q)) ?_; rw [World.setRow_alloc_new])
            | (refine wpList_load_mid rfl 26 (.tmp 14) rfl _ 0 rfl (missL q) _ (range_of_block (heap_alloc_last _ _)) Yba.underlying26 rfl hk26.out ?_))
          have HZ : Hid (Below wr.heap.size wr (x2.alloc (.cells ((idL q).set 1 (.int .u8 1)).toArray 26))) := via Hx2.out (by go_grown)
          generalize x2.alloc (.cells ((idL q).set 1 (.int .u8 1)).toArray 26) = Z at *
          have HBZ : Book w Z bk w.heap.size es := HBw.out.later HZ.out
          refine (get_any bk w.heap.size (missL q) ZA (.pointer none) false Z HBZ.2.1 HBZ.2.2.1 HBZ.2.2.2.1 (Hmis.out.later (HZ.out.block _ lbm)) (Nat.lt_of_lt_of_le lbm HZ.out.size) HBZ.2.2.2.2.1 (missL_len q) (.inr ⟨rfl, rfl⟩) ZA_len ZA_one).mono ?_
          rintro e x3 ⟨rfl, bx3⟩
          have Hx3 : Hid (Below wr.heap.size wr x3) := via HZ.out bx3
          have Hfin : Hid (Below w.heap.size w wr) := HBw.out.1
          have heql := eql_zero
          have hi0 : Hid ((Yba.prog.info? 33).map (·.size) = some ZA.length) := by show _ = _; rw [ZA_len]; kernel_rfl
          have hnot : ∀ (x : Bool) (w : World), (Op.unary .not (.bool x)).run Yba.prog w = .ok (.bool (!x)) w := fun _ _ => rfl
          clear bx3 HBZ HZ Hmis Hx2 Hq2 HBw hi33 Hrx Hrw hK HBk Hes
          go_wp2_with (first
            | (refine wpList_store_rowTo rfl 33 _ _ rfl rfl _ ZA.toArray rfl rfl 33 _ (heap_alloc_last _ _) (by simpa using hi0.out) (by as_aux_lemma => kernel_rfl) (all_oneCell_toArray ZA_one) ?_; rw [World.setRow_alloc_new])
            | (refine BigFrame.wpList_want (by rfl) (fun K hK => wp_load_mid 33 (.tmp 15) rfl _ 0 rfl ZA _ (range_of_block (heap_alloc_last _ _)) Yba.underlying33 rfl hi0.out (hK _ _ ?_)))
            | (refine BigFrame.wpList_want (by rfl) (fun K hK => wp_build_to 33 _ rfl ZA.toArray (by as_aux_lemma => kernel_rfl) (hK _ _ ?_))))
          go_ret
          exact ⟨rfl, (via Hfin.out Hx3.out).alloc (via Hfin.out Hx3.out).size _⟩
end Go.Proofs.Ybulkbcag
