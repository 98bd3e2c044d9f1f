/-
  OWN TEXT. IDs, addresses, the last entry of a key; the map of the book: what it holds behind a list of entries, written and looked up.
-/
import Derived.Test.YbulkbcagGet
namespace Go.Proofs.Ybulkbcag
open Go.ChangeShapes Go.WideShapes Go.ChangeAt Go.RowKit Go.MuLone

/-! ### Entries, IDs, addresses -/
structure Ent where
  k : Int
  host : ByteArray
  port : Int
/-- An entry's numbers and string are such as Go holds. -/
def Ent.ok (e : Ent) : Prop := (Lit.int .u8 e.k).wf = true ∧ e.host.size ≤ maxLen ∧ (Lit.int .u16 e.port).wf = true
/-- The bytes of an ID as numbers. -/
def idN (k x y : Int) : List Int := [k, y, 0, 0, 0, 0, 0, 0, 0, 0, 0, 0, 0, 0, 0, 0, 0, 0, 0, x]
def xk (k : Int) : Int := bits .xor .u8 k 90
/-- The cells of the ID of key byte k. -/
def idL (k : Int) : List Value := (idN k (xk k) 0).map (.int .u8)
/-- The cells of the ID that no entry has. -/
def missL (k : Int) : List Value := (idN k (xk k) 1).map (.int .u8)
def adOf (e : Ent) : List Value := idL e.k ++ [.string e.host, .int .u16 e.port]
theorem idL_len (k : Int) : (idL k).length = 20 := rfl
theorem missL_len (k : Int) : (missL k).length = 20 := rfl
theorem adOf_len (e : Ent) : (adOf e).length = 22 := rfl
theorem idL_arr (k : Int) : (idL k).toArray = idA k (xk k) := rfl
theorem idL_one (k : Int) : ∀ v ∈ idL k, v.oneCell' = true := by
  intro v hv
  obtain ⟨n, _, rfl⟩ := List.mem_map.1 hv
  rfl
theorem adOf_one (e : Ent) : ∀ v ∈ adOf e, v.oneCell' = true := by
  intro v hv
  rcases List.mem_append.1 hv with h | h
  · exact idL_one _ v h
  · simp at h
    rcases h with rfl | rfl <;> rfl
theorem idL_inj {a b : Int} (h : idL a = idL b) : a = b := by
  have := congrArg List.head? h
  simpa [idL, idN] using this
theorem missL_ne (q k : Int) : missL q ≠ idL k := by
  intro h
  have := congrArg (fun l => l[1]?) h
  simp [missL, idL, idN] at this

/-! ### The last entry of a key -/
def lastEnt (l : List Ent) (q : Int) : Option Ent := l.foldl (fun acc e => if e.k = q then some e else acc) none
theorem lastEnt_snoc (l : List Ent) (e : Ent) (q : Int) : lastEnt (l ++ [e]) q = if e.k = q then some e else lastEnt l q := by simp [lastEnt]
theorem lastEnt_mem (l : List Ent) (q : Int) {e : Ent} (h : lastEnt l q = some e) : e ∈ l ∧ e.k = q := by
  have gen : ∀ (l : List Ent) (acc : Option Ent), l.foldl (fun acc e => if e.k = q then some e else acc) acc = some e → (e ∈ l ∧ e.k = q) ∨ acc = some e := by
    intro l
    induction l with
    | nil => intro acc h; exact .inr h
    | cons x r ih =>
      intro acc h
      rw [List.foldl_cons] at h
      rcases ih _ h with ⟨h1, h2⟩ | h1
      · exact .inl ⟨by simp [h1], h2⟩
      · split at h1
        · rename_i hx
          cases h1
          exact .inl ⟨by simp, hx⟩
        · exact .inr h1
  rcases gen l none h with h | h
  · exact h
  · cases h

/-! ### Keys -/
theorem mapM_some {α β : Type} (f : α → Option β) : ∀ l : List α, (∀ i ∈ l, ∃ y, f i = some y) → ∃ ys, l.mapM f = some ys
  | [], _ => ⟨[], rfl⟩
  | x :: r, h => by
    obtain ⟨y, hy⟩ := h x (by simp)
    obtain ⟨ys, hys⟩ := mapM_some f r (fun i hi => h i (by simp [hi]))
    exact ⟨y :: ys, by simp [hy, hys]⟩
theorem cells26 : Yba.prog.cellsOf 26 = 20 := by kernel_rfl
theorem cells5 : Yba.prog.cellsOf 5 = 1 := by kernel_rfl
theorem cells9 : Yba.prog.cellsOf 9 = 1 := by kernel_rfl
theorem cells28 : Yba.prog.cellsOf 28 = 1 := by kernel_rfl
theorem cells33 : Yba.prog.cellsOf 33 = 22 := by kernel_rfl
theorem key26 : Yba.prog.keyType 26 = true := by kernel_rfl
theorem key33 : Yba.prog.keyType 33 = true := by kernel_rfl
theorem tsize2 : 2 ≤ Yba.prog.types.size := of_decide_eq_true (by kernel_rfl)
theorem tsize : ∃ n, Yba.prog.types.size = n + 2 := ⟨_, (Nat.sub_add_cancel tsize2).symm⟩
theorem lits26 (d : Nat) (zs : List Int) (hl : zs.length = 20) (hw : ∀ z ∈ zs, (Lit.int .u8 z).wf = true) : ∃ ls, Yba.prog.keyLits (d + 2) 26 (zs.map (.int .u8)) = some ls := by
  unfold Program.keyLits
  simp only [Yba.underlying26]
  rw [if_pos (by rw [cells26]; simpa using hl)]
  obtain ⟨ys, hys⟩ := mapM_some (fun i => Yba.prog.keyLits (d + 1) 5 (((zs.map (Value.int .u8)).drop (i * Yba.prog.cellsOf 5)).take (Yba.prog.cellsOf 5))) (List.range 20) (fun i hi => by
    have hi' : i < zs.length := by rw [hl]; exact List.mem_range.1 hi
    rw [cells5]
    have e : ((zs.map (Value.int .u8)).drop (i * 1)).take 1 = [.int .u8 zs[i]] := by
      rw [Nat.mul_one, ← List.map_drop, ← List.map_take, List.drop_eq_getElem_cons hi']
      rfl
    rw [e]
    exact ⟨[.int .u8 zs[i]], by simp [Program.keyLits, Yba.underlying5, hw _ (List.getElem_mem hi')]⟩)
  rw [hys]
  exact ⟨_, rfl⟩
theorem keyOf26 (zs : List Int) (hl : zs.length = 20) (hw : ∀ z ∈ zs, (Lit.int .u8 z).wf = true) : ∃ l, keyOf Yba.prog 26 (.agg (zs.map (.int .u8)).toArray) = some l := by
  unfold keyOf
  simp only [Yba.underlying26]
  rw [if_pos (by simp [key26, Value.formed, Yba.underlying26, cells26, hl])]
  obtain ⟨n, hn⟩ := tsize
  obtain ⟨ls, hls⟩ := lits26 (n + 1) zs hl hw
  rw [hn, show (Value.agg (zs.map (Value.int .u8)).toArray).cells.toList = zs.map (.int .u8) from rfl, show n + 2 + 1 = n + 1 + 2 from by omega, hls]
  exact ⟨_, rfl⟩
theorem keyOf33 (zs : List Int) (hl : zs.length = 20) (hw : ∀ z ∈ zs, (Lit.int .u8 z).wf = true) (s : ByteArray) (hs : s.size ≤ maxLen) (p : Int) (hp : (Lit.int .u16 p).wf = true) :
    ∃ l, keyOf Yba.prog 33 (.agg (zs.map (Value.int .u8) ++ [Value.string s, Value.int .u16 p]).toArray) = some l := by
  unfold keyOf
  simp only [Yba.underlying33]
  rw [if_pos (by simp [key33, Value.formed, Yba.underlying33, cells33, hl])]
  obtain ⟨n, hn⟩ := tsize
  obtain ⟨ls, hls⟩ := lits26 n zs hl hw
  rw [hn]
  show ∃ l, Option.map _ (Yba.prog.keyLits (n + 2 + 1) 33 (zs.map (Value.int .u8) ++ [Value.string s, Value.int .u16 p])) = some l
  have e0 : ((zs.map (Value.int .u8) ++ [Value.string s, Value.int .u16 p]).drop 0).take 20 = zs.map (.int .u8) := by
    rw [List.drop_zero, List.take_append_of_le_length (by simp [hl]), List.take_of_length_le (by simp [hl])]
  have e1 : ((zs.map (Value.int .u8) ++ [Value.string s, Value.int .u16 p]).drop 20).take 1 = [.string s] := by
    rw [List.drop_append_of_le_length (by simp [hl]), List.drop_of_length_le (by simp [hl])]; rfl
  have e2 : ((zs.map (Value.int .u8) ++ [Value.string s, Value.int .u16 p]).drop 21).take 1 = [.int .u16 p] := by
    rw [List.drop_append, List.drop_of_length_le (by simp [hl])]; simp [hl]
  unfold Program.keyLits
  simp only [Yba.underlying33]
  rw [if_pos (by rw [cells33]; simp [hl])]
  simp only [List.mapM_cons, List.mapM_nil, cells26, cells9, cells28, e0, e1, e2, hls]
  simp [Program.keyLits, Yba.underlying9, Yba.underlying28, hs, hp]

theorem eqs33 {x : Value} {l : Lit} (h : keyOf Yba.prog 33 x = some l) (w : World) : (Op.equal 33 x x).run Yba.prog w = .ok true w := by
  obtain ⟨r, h1, h2⟩ := run_equal_deep w (m := Yba.prog.types.size + 1) (by have : Yba.prog.types.size ≤ 9999 := of_decide_eq_true (by kernel_rfl); omega) (k := 33) key33 (by kernel_rfl) h h
  rw [h1, h2.2 rfl]
theorem u8_wf0 : (Lit.int .u8 0).wf = true := by decide
theorem u8_wf1 : (Lit.int .u8 1).wf = true := by decide
theorem idN_wf {k x y : Int} (hk : (Lit.int .u8 k).wf = true) (hx : (Lit.int .u8 x).wf = true) (hy : (Lit.int .u8 y).wf = true) : ∀ z ∈ idN k x y, (Lit.int .u8 z).wf = true := by
  intro z hz
  simp only [idN, List.mem_cons, List.not_mem_nil, or_false] at hz
  rcases hz with h | h | h | h | h | h | h | h | h | h | h | h | h | h | h | h | h | h | h | h <;> first | exact h ▸ hk | exact h ▸ hx | exact h ▸ hy | exact h ▸ u8_wf0
theorem xk_wf (k : Int) : (Lit.int .u8 (xk k)).wf = true := wf_bits _ _ _ _
theorem key_id {k : Int} (hk : (Lit.int .u8 k).wf = true) : ∃ l, keyOf Yba.prog 26 (.agg (idL k).toArray) = some l := keyOf26 _ rfl (idN_wf hk (xk_wf k) u8_wf0)
theorem key_miss {k : Int} (hk : (Lit.int .u8 k).wf = true) : ∃ l, keyOf Yba.prog 26 (.agg (missL k).toArray) = some l := keyOf26 _ rfl (idN_wf hk (xk_wf k) u8_wf1)
theorem key_ad {e : Ent} (h : e.ok) : ∃ l, keyOf Yba.prog 33 (.agg (adOf e).toArray) = some l := keyOf33 _ rfl (idN_wf h.1 (xk_wf e.k) u8_wf0) _ h.2.1 _ h.2.2
theorem key_zero : ∃ l, keyOf Yba.prog 33 (.agg ZA.toArray) = some l := keyOf33 (idN 0 0 0) rfl (idN_wf u8_wf0 u8_wf0 u8_wf0) ByteArray.empty (by decide) 0 (by decide)
/-- The address of the last entry of a key; the zero Addr where there is none. -/
def adr : Option Ent → List Value
  | none => ZA
  | some e => adOf e
theorem adr_len (o : Option Ent) : (adr o).length = 22 := by cases o <;> rfl
theorem adr_one (o : Option Ent) : ∀ v ∈ adr o, v.oneCell' = true := by
  cases o with
  | none => exact ZA_one
  | some e => exact adOf_one e
theorem key_adr {o : Option Ent} (h : ∀ e, o = some e → e.ok) : ∃ l, keyOf Yba.prog 33 (.agg (adr o).toArray) = some l := by
  cases o with
  | none => exact key_zero
  | some e => exact key_ad (h e rfl)
theorem neq_adr {o : Option Ent} (h : ∀ e, o = some e → e.ok) (w : World) : (binOp .neq 33 (.agg (adr o).toArray) (.agg (adr o).toArray)).run Yba.prog w = .ok (.bool false) w := by
  obtain ⟨l, hl⟩ := key_adr h
  simp only [binOp, Sem.run_bind, eqs33 hl w, Result.andThen_ok, Sem.run_pure, Bool.not_true]
theorem eql_zero (w : World) : (binOp .eql 33 (.agg ZA.toArray) (.agg ZA.toArray)).run Yba.prog w = .ok (.bool true) w := by
  obtain ⟨l, hl⟩ := key_zero
  simp only [binOp, Sem.run_bind, eqs33 hl w, Result.andThen_ok, Sem.run_pure]

/-! ### The map: how an element reads, and what it holds behind the entries l -/
def RP : Value → Option (DataW Unit × List MemPlace)
  | .pointer none => some (.nil, [])
  | .pointer (some ⟨b, 0, none⟩) => some (.lit (.int .u64 b), [])
  | _ => none
theorem RP_inv {v : Value} {b : Nat} {ps : List MemPlace} (h : RP v = some (.lit (.int .u64 b), ps)) : v = .pointer (some ⟨b, 0, none⟩) := by
  unfold RP at h
  split at h
  · simp at h
  · simp only [Option.some.injEq, Prod.mk.injEq, DataW.lit.injEq, Lit.int.injEq, true_and] at h
    have h1 := Int.ofNat_inj.1 h.1
    rw [h1]
  · cases h
theorem RP_inv_nil {v : Value} {ps : List MemPlace} (h : RP v = some (.nil, ps)) : v = .pointer none := by
  unfold RP at h
  split at h
  · rfl
  · simp at h
  · cases h
/-- What is known of one key. -/
def At (W : World) (B bk : Nat) (D : DataW Unit) (l : Lit) : Option Ent → Prop
  | none => Maps.has D l = false
  | some e => Maps.has D l = true ∧ ∃ eb : Nat, D.atKey l .nil = .lit (.int .u64 eb) ∧ W.rangeAt eb 0 (adOf e) ∧ eb ≠ bk ∧ B ≤ eb ∧ eb < W.heap.size
def MapOK (B : Nat) (W : World) (bk bm : Nat) (l : List Ent) : Prop :=
  ∃ D : DataW Unit, W.ownsMap Yba.prog 26 RP bm l.length D ∧
    ∀ (kc : List Value) (kl : Lit), keyOf Yba.prog 26 (.agg kc.toArray) = some kl → ((∀ k, kc ≠ idL k) → Maps.has D kl = false) ∧ ∀ q, kc = idL q → At W B bk D kl (lastEnt l q)
theorem owns_same {W W' : World} {bm n : Nat} {D : DataW Unit} (h : W.ownsMap Yba.prog 26 RP bm n D) (hb : W'.heap[bm]? = W.heap[bm]?) : W'.ownsMap Yba.prog 26 RP bm n D := by
  obtain ⟨es, clock, h1, h2⟩ := h
  exact ⟨es, clock, hb.trans h1, h2⟩
theorem range_ne {W : World} {bm n eb : Nat} {D : DataW Unit} {e : Ent} (h : W.ownsMap Yba.prog 26 RP bm n D) (hr : W.rangeAt eb 0 (adOf e)) : eb ≠ bm := by
  rintro rfl
  obtain ⟨es, clock, h1, _⟩ := h
  have := hr 0 (.int .u8 e.k) rfl
  simp [World.cell?, h1] at this
theorem range_same {W W' : World} {b : Nat} {cs : List Value} (hr : W.rangeAt b 0 cs) (hb : W'.heap[b]? = W.heap[b]?) : W'.rangeAt b 0 cs := fun j v hv => (World.cell?_of_block (w := W) (a := ⟨b, 0 + j, none⟩) hb).trans (hr j v hv)
theorem At.later {W W' : World} {B bk bm n : Nat} {D D0 : DataW Unit} {l : Lit} {o : Option Ent} (hown : W.ownsMap Yba.prog 26 RP bm n D0) (h : At W B bk D l o) (hz : W.heap.size ≤ W'.heap.size)
    (hb : ∀ k, k < W.heap.size → k ≠ bm → W'.heap[k]? = W.heap[k]?) : At W' B bk D l o := by
  cases o with
  | none => exact h
  | some e =>
    obtain ⟨h1, eb, h2, h3, h4, h5, h6⟩ := h
    exact ⟨h1, eb, h2, range_same h3 (hb eb h6 (range_ne hown h3)), h4, h5, Nat.lt_of_lt_of_le h6 hz⟩
theorem MapOK.later {B : Nat} {W W' : World} {bk bm : Nat} {l : List Ent} (h : MapOK B W bk bm l) (hb : Below W.heap.size W W') : MapOK B W' bk bm l := by
  obtain ⟨D, hown, hall⟩ := h
  exact ⟨D, owns_same hown (hb.block bm hown.lt), fun kc kl hk => ⟨(hall kc kl hk).1, fun q hq => ((hall kc kl hk).2 q hq).later hown hb.size (fun k hk _ => hb.block k hk)⟩⟩
theorem MapOK.lt {B : Nat} {W : World} {bk bm : Nat} {l : List Ent} (h : MapOK B W bk bm l) : bm < W.heap.size := by
  obtain ⟨D, hown, _⟩ := h
  exact hown.lt
theorem MapOK.made {B bk : Nat} (W : World) (bm : Nat) (h : W.heap[bm]? = some (.map #[] 0)) : MapOK B W bk bm [] := by
  refine ⟨.map [], ⟨#[], 0, h, ⟨by simp, MapKept.stamped_empty 0, by simp⟩, Nat.le_refl _, rfl⟩, fun kc kl hk => ⟨fun _ => rfl, fun q _ => rfl⟩⟩
/-- 'm[id] = p': the map holds one entry more. -/
theorem MapOK.put {B : Nat} {W : World} {bk bm nb : Nat} {l : List Ent} {e : Ent} (h : MapOK B W bk bm l) (he : e.ok) (hl : l.length < maxLen) (hr : W.rangeAt nb 0 (adOf e)) (h1 : nb ≠ bk) (h2 : B ≤ nb) (h3 : nb < W.heap.size) :
    ∃ W', (Instr.mapUpdate 60 (.map (some bm)) (.agg (idL e.k).toArray) (.pointer (some ⟨nb, 0, none⟩))).run Yba.prog W = .ok () W' ∧ MapOK B W' bk bm (l ++ [e]) ∧
      W'.os = W.os ∧ W'.tape = W.tape ∧ W'.output = W.output ∧ W'.heap.size = W.heap.size ∧ ∀ k, k ≠ bm → W'.heap[k]? = W.heap[k]? := by
  obtain ⟨D, hown, hall⟩ := h
  obtain ⟨kl0, hk0⟩ := key_id he.1
  obtain ⟨W', hrun, hown', hturn⟩ := hown.store law26 Yba.underlying60 hl hk0 (val := .pointer (some ⟨nb, 0, none⟩)) (d := .lit (.int .u64 nb)) (ps := []) rfl
  obtain ⟨es, clock, es', clock', hb, hW'⟩ := hturn
  have hoth : ∀ k, k ≠ bm → W'.heap[k]? = W.heap[k]? := fun k hk => by rw [hW']; exact ChangeMaps.heap_setBlock_other hb _ hk
  have hsz : W'.heap.size = W.heap.size := by rw [hW']; simp [ChangeMaps.setBlock]
  refine ⟨W', hrun, ⟨D.put kl0 (.lit (.int .u64 nb)), by simpa using hown', fun kc kl hk => ?_⟩, by rw [hW']; rfl, by rw [hW']; rfl, by rw [hW']; rfl, hsz, hoth⟩
  have hm : Maps.IsMap D := hown.isMap
  by_cases hkl : kl = kl0
  · subst hkl
    have hkc : kc = idL e.k := by
      have := law26.inj hk hk0
      simpa using this
    refine ⟨fun hn => absurd hkc (hn e.k), fun q hq => ?_⟩
    obtain rfl : e.k = q := idL_inj (hkc.symm.trans hq)
    rw [lastEnt_snoc, if_pos rfl]
    exact ⟨Maps.has_put_same hm (law26.key hk0) _, nb, Maps.atKey_put_same hm (law26.key hk0) _ _, range_same hr (hoth nb (range_ne hown hr)), h1, h2, by rw [hsz]; exact h3⟩
  · refine ⟨fun hn => by rw [Maps.has_put_other hkl]; exact (hall kc kl hk).1 hn, fun q hq => ?_⟩
    have hne : ¬ e.k = q := by
      intro e1
      subst hq
      rw [e1] at hk0
      rw [hk] at hk0
      exact hkl (by simpa using hk0)
    rw [lastEnt_snoc, if_neg hne]
    have := ((hall kc kl hk).2 q hq).later hown (W' := W') (Nat.le_of_eq hsz.symm) (fun k _ hk => hoth k hk)
    cases hle : lastEnt l q with
    | none =>
      rw [hle] at this
      show Maps.has _ _ = _
      rw [Maps.has_put_other hkl]
      exact this
    | some e2 =>
      rw [hle] at this
      obtain ⟨a1, eb, a2, a3⟩ := this
      exact ⟨by rw [Maps.has_put_other hkl]; exact a1, eb, by rw [Maps.atKey_put_other hkl]; exact a2, a3⟩
/-- 'v, ok := m[id]' of a key byte. -/
theorem MapOK.looks {B : Nat} {W : World} {bk bm : Nat} {l : List Ent} {q : Int} (h : MapOK B W bk bm l) (hq : (Lit.int .u8 q).wf = true) :
    ∃ v, Looks W bm (.agg (idL q).toArray) v (lastEnt l q).isSome ∧ Found W bk v (lastEnt l q).isSome (adr (lastEnt l q)) := by
  obtain ⟨D, hown, hall⟩ := h
  obtain ⟨kl, hk⟩ := key_id hq
  have hat := (hall _ kl hk).2 q rfl
  cases hle : lastEnt l q with
  | none =>
    rw [hle] at hat
    refine ⟨.pointer none, fun x hx => ?_, .inr ⟨rfl, rfl⟩⟩
    obtain ⟨v, ps, hrun, hv⟩ := (owns_same hown hx).look_ok law26 Yba.underlying60 (Yba.zeroValue31 x) (zd := .nil) (zp := []) rfl hk
    rw [Maps.atKey_of_not_has hat] at hv
    rw [hrun, RP_inv_nil hv, show Maps.has D kl = false from hat]
    rfl
  | some e =>
    rw [hle] at hat
    obtain ⟨a1, eb, a2, a3, a4, a5, a6⟩ := hat
    refine ⟨.pointer (some ⟨eb, 0, none⟩), fun x hx => ?_, .inl ⟨rfl, eb, rfl, a3, a4, a6⟩⟩
    obtain ⟨v, ps, hrun, hv⟩ := (owns_same hown hx).look_ok law26 Yba.underlying60 (Yba.zeroValue31 x) (zd := .nil) (zp := []) rfl hk
    rw [a2] at hv
    rw [hrun, RP_inv hv, a1]
    rfl
/-- .. of the ID that no entry has. -/
theorem MapOK.misses {B : Nat} {W : World} {bk bm : Nat} {l : List Ent} {q : Int} (h : MapOK B W bk bm l) (hq : (Lit.int .u8 q).wf = true) :
    Looks W bm (.agg (missL q).toArray) (.pointer none) false := by
  obtain ⟨D, hown, hall⟩ := h
  obtain ⟨kl, hk⟩ := key_miss hq
  have hat := (hall _ kl hk).1 (missL_ne q)
  intro x hx
  obtain ⟨v, ps, hrun, hv⟩ := (owns_same hown hx).look_ok law26 Yba.underlying60 (Yba.zeroValue31 x) (zd := .nil) (zp := []) rfl hk
  rw [Maps.atKey_of_not_has hat] at hv
  rw [hrun, RP_inv_nil hv, hat]
end Go.Proofs.Ybulkbcag
