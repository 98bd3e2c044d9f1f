/-
  OWN TEXT. (*Book).Get (6) and (*Book).Holds (7) by contracts: the lock is free before and behind; nothing old has turned.
-/
import Derived.Test.YbulkbcagWide
import Derived.Test.YbulkbcagLocks
import Derived.Conc.MuLone
import Derived.Deep.RegionHeld3
namespace Go.Proofs.Ybulkbcag
open Go.ChangeShapes Go.WideShapes Go.ChangeAt Go.RowKit Go.MuLone
/-- In every world that holds map bm as w does, 'v, ok := m[key]' gives these. -/
def Looks (w : World) (bm : Nat) (key v : Value) (b : Bool) : Prop :=
  ∀ x : World, x.heap[bm]? = w.heap[bm]? → (Instr.lookup 60 (.map (some bm)) key true).run Yba.prog x = .ok (.tuple #[v, .bool b]) x
/-- The zero Addr. -/
def ZA : List Value := [.int .u8 0, .int .u8 0, .int .u8 0, .int .u8 0, .int .u8 0, .int .u8 0, .int .u8 0, .int .u8 0, .int .u8 0, .int .u8 0, .int .u8 0, .int .u8 0, .int .u8 0, .int .u8 0, .int .u8 0, .int .u8 0, .int .u8 0, .int .u8 0, .int .u8 0, .int .u8 0, .string ByteArray.empty, .int .u16 0]
theorem ZA_one : ∀ v ∈ ZA, v.oneCell' = true := by simp [ZA, Value.oneCell']
theorem ZA_len : ZA.length = 22 := rfl
theorem results_get {fn : Func} {p u : Tmp} {ty : TypeId} (h : fn.results = #[.cell p ty, .tmp u]) (tmps : Array Value) (P : Program) (w : World) (b : Nat) (cs : List Value) (d : TypeDesc)
    (hp : tmps.getD p undef = .pointer (some ⟨b, 0, none⟩)) (hc : w.rangeAt b 0 cs) (hu : P.underlying ty = some d) (hd : d.isRow = true) (hi : (P.info? ty).map (·.size) = some cs.length) :
    (results fn tmps).run P w = .ok (.tuple #[.agg cs.toArray, tmps.getD u undef]) w := by
  rw [results_cell_tmp h, hp]
  simp only [asAddr, Sem.run_pure, Result.andThen_ok, run_loadVar_mid w b 0 ty cs d hc hu hd hi]
/-- What the map gives at the key, and the address that Get then hands back. -/
def Found (w : World) (bk : Nat) (v : Value) (ok : Bool) (ad : List Value) : Prop :=
  (ok = true ∧ ∃ eb, v = .pointer (some ⟨eb, 0, none⟩) ∧ w.rangeAt eb 0 ad ∧ eb ≠ bk ∧ eb < w.heap.size) ∨ (ok = false ∧ ad = ZA)
set_option maxRecDepth 100000 in
set_option maxHeartbeats 1000000 in
theorem get_any (bk bm : Nat) (kc ad : List Value) (v : Value) (ok : Bool) (w : World)
    (c0 : w.cell? ⟨bk, 0, none⟩ = some (.int .i32 0)) (f0 : w.frozen? ⟨bk, 0, none⟩ = false) (c2 : w.cell? ⟨bk, 2, none⟩ = some (.map (some bm)))
    (hl : Looks w bm (.agg kc.toArray) v ok) (hbm : bm < w.heap.size) (hne : bm ≠ bk) (hkl : kc.length = 20)
    (hF : Found w bk v ok ad) (hal : ad.length = 22) (ha1 : ∀ v ∈ ad, v.oneCell' = true) :
    Calls Yba.prog 6 #[.pointer (some ⟨bk, 0, none⟩), .agg kc.toArray] w fun e w' => e = .returned (.tuple #[.agg ad.toArray, .bool ok]) ∧ Below w.heap.size w w' := by
  have hlt := cell_lt c0
  go_enter_defers Yba.func6, Yba.ntmps6
  go_wp2_with fail
  have hB0 : ∀ A Z, Below w.heap.size w ((w.alloc (.cells A 26)).alloc (.cells Z 33)) := fun A Z => by go_grown
  refine (lock_free Yba.muLib ⟨bk, 0, none⟩ _ (((hB0 _ _).cell hlt).trans c0) (((hB0 _ _).frozen hlt).trans f0)).mono ?_
  rintro e W ⟨rfl, hW⟩
  have hWl : Below w.heap.size (w.setCell ⟨bk, 0, none⟩ (.int .i32 1)) W := by
    rw [hW]
    exact below_both (hB0 _ _) _ _
  have hk : W.rangeAt w.heap.size 0 kc := by
    rw [hW]
    exact range_setCell (range_of_block (under_at (heap_alloc_last _ _) _)) (by simp; omega) _
  have hr : W.there (w.heap.size + 1) 0 22 := by
    rw [hW]
    exact there_setCell (there_of_block (last_at (by simp) _) (by simp)) (by simp; omega) _
  have hc2 : W.cell? ⟨bk, 2, none⟩ = some (.map (some bm)) := by
    rw [hW, World.cell?_setCell_other _ _ _ _ (by simp), (hB0 _ _).cell hlt, c2]
  have hc0 : W.cell? ⟨bk, 0, none⟩ = some (.int .i32 1) := by
    rw [hW]
    exact World.cell?_setCell_same _ _ _ (((hB0 _ _).cell hlt).trans c0)
  have hf0 : W.frozen? ⟨bk, 0, none⟩ = false := by
    rw [hW]
    simpa using ((hB0 _ _).frozen hlt).trans f0
  have hbW : W.heap[bm]? = w.heap[bm]? := by
    rw [hWl.block bm hbm, Below.heap_setCell _ _ _ _ hne]
  have hL : ∀ x : World, x.heap[bm]? = W.heap[bm]? → (Instr.lookup 60 (.map (some bm)) (.agg kc.toArray) true).run Yba.prog x = .ok (.tuple #[v, .bool ok]) x := fun x hx => hl x (hx.trans hbW)
  have hF' : Hid (Found W bk v ok ad) := by
    rcases hF with ⟨h1, eb, h2, h3, h4, h5⟩ | h
    · exact .inl ⟨h1, eb, h2, range_below hWl h5 (range_setCell h3 (by simpa using fun e => h4 e.symm) _), h4, by have := hWl.size; simp at this; omega⟩
    · exact .inr h
  clear hW hB0 hF
  have hi26 : (Yba.prog.info? 26).map (·.size) = some kc.length := by rw [hkl]; kernel_rfl
  have hi33 : Hid ((Yba.prog.info? 33).map (·.size) = some ad.length) := by show _ = _; rw [hal]; kernel_rfl
  have hu26 := Yba.underlying26
  have HL := hL W.drew rfl
  have HL0 := hL W rfl
  have HH : Hid (Below w.heap.size (w.setCell ⟨bk, 0, none⟩ (.int .i32 1)) W) := hWl
  have HC : Hid (w.cell? ⟨bk, 0, none⟩ = some (.int .i32 0)) := c0
  clear hL hl hWl hbW c0 f0 c2
  go_wp2_with fail
  go_region_held3 (fun x => x.cell? ⟨bk, 2, none⟩ = some (.map (some bm)) ∧ x.rangeAt w.heap.size 0 kc ∧ (Instr.lookup 60 (.map (some bm)) (.agg kc.toArray) true).run Yba.prog x = .ok (.tuple #[v, .bool ok]) x) (first | go_keep | (go_split_ands; refine ⟨by go_keep, by simpa using hk, by assumption⟩)) (fail)
  clear HL HL0 hk hu26 hi26
  rename_i hh
  clear hh
  have hnot : ∀ (x : Bool) (w : World), (Op.unary .not (.bool x)).run Yba.prog w = .ok (.bool (!x)) w := fun _ _ => rfl
  have hr2 : W.drew.there (w.heap.size + 1) 0 ad.toArray.size := (World.there_drew _ _ _ _).2 (by simpa [hal] using hr)
  have fin : ∀ (e : Ending) (w' : World), w' = (W.drew.setCells (w.heap.size + 1) 0 ad).setCell ⟨bk, 0, none⟩ (.int .i32 0) → Below w.heap.size w w' := fun e w' h => by
    rw [h]
    exact back_free rfl HC.out (below_setCells _ _ _ _ HH.out.drew (by omega))
  have cl : (W.drew.setCells (w.heap.size + 1) 0 ad).cell? ⟨bk, 0, none⟩ = some (.int .i32 1) := by
    rw [World.cell?_setCells_out _ _ _ _ _ (fun hb _ => by simp at hb; omega)]
    exact hc0
  have fl : (W.drew.setCells (w.heap.size + 1) 0 ad).frozen? ⟨bk, 0, none⟩ = false := by
    rw [World.frozen?_setCells]
    exact hf0
  have rd : ((W.drew.setCells (w.heap.size + 1) 0 ad).setCell ⟨bk, 0, none⟩ (.int .i32 0)).rangeAt (w.heap.size + 1) 0 ad :=
    range_setCell (World.rangeAt_setCells_same _ _ _ _ (by simpa using hr2)) (by simp; omega) _
  rcases hF'.out with ⟨rfl, eb, rfl, hA, _, _⟩ | ⟨rfl, rfl⟩
  · clear hF'
    have hA' : W.drew.rangeAt eb 0 ad := (World.rangeAt_drew _ _ _ _).2 hA
    go_wp2_with (first
      | (refine wpList_load_mid rfl 33 _ rfl _ 0 rfl ad _ hA' Yba.underlying33 rfl hi33.out ?_)
      | (refine wpList_store_mid rfl 33 _ _ rfl _ 0 ad.toArray rfl rfl hr2 (by simpa using hi33.out) (all_oneCell_toArray ha1) ?_))
    refine leaves_cons (f := 10) (args := #[.pointer (some ⟨bk, 0, none⟩)]) (by simp) (by simp [go_sem]) ?_
    refine (unlock_deferred Yba.muLib ⟨bk, 0, none⟩ .returning _ cl fl).mono ?_
    rintro e u' w'' ⟨rfl, rfl, hw''⟩
    subst hw''
    exact ⟨_, results_get rfl _ _ _ (w.heap.size + 1) ad _ rfl rd Yba.underlying33 rfl hi33.out, rfl, fin .outgrown _ rfl⟩
  · clear hF'
    go_wp2_with (first
      | (refine wpList_buildTo rfl 33 _ rfl _ rfl ZA.toArray (by as_aux_lemma => kernel_rfl) ?_)
      | (refine wpList_store_mid rfl 33 _ _ rfl _ 0 ZA.toArray rfl rfl hr2 (by simpa using hi33.out) (all_oneCell_toArray ha1) ?_))
    refine leaves_cons (f := 10) (args := #[.pointer (some ⟨bk, 0, none⟩)]) (by simp) (by simp [go_sem]) ?_
    refine (unlock_deferred Yba.muLib ⟨bk, 0, none⟩ .returning _ cl fl).mono ?_
    rintro e u' w'' ⟨rfl, rfl, hw''⟩
    subst hw''
    exact ⟨_, results_get rfl _ _ _ (w.heap.size + 1) ZA _ rfl rd Yba.underlying33 rfl hi33.out, rfl, fin .outgrown _ rfl⟩
theorem Looks.later {w W : World} {bm : Nat} {key v : Value} {b : Bool} (h : Looks w bm key v b) (hb : W.heap[bm]? = w.heap[bm]?) : Looks W bm key v b := fun x hx => h x (hx.trans hb)
theorem Found.later {w W : World} {bk : Nat} {v : Value} {ok : Bool} {ad : List Value} (h : Found w bk v ok ad) (hb : Below w.heap.size w W) : Found W bk v ok ad := by
  rcases h with ⟨h1, eb, h2, h3, h4, h5⟩ | h
  · exact .inl ⟨h1, eb, h2, range_below hb h5 h3, h4, Nat.lt_of_lt_of_le h5 hb.size⟩
  · exact .inr h
set_option maxRecDepth 100000 in
set_option maxHeartbeats 1000000 in
theorem holds_any (bk bm : Nat) (kc ad : List Value) (v : Value) (ok : Bool) (w : World)
    (c0 : w.cell? ⟨bk, 0, none⟩ = some (.int .i32 0)) (f0 : w.frozen? ⟨bk, 0, none⟩ = false) (c2 : w.cell? ⟨bk, 2, none⟩ = some (.map (some bm)))
    (hl : Looks w bm (.agg kc.toArray) v ok) (hbm : bm < w.heap.size) (hne : bm ≠ bk) (hkl : kc.length = 20)
    (hF : Found w bk v ok ad) (hal : ad.length = 22) (ha1 : ∀ v ∈ ad, v.oneCell' = true) :
    Calls Yba.prog 7 #[.pointer (some ⟨bk, 0, none⟩), .agg kc.toArray] w fun e w' => e = .returned (.bool ok) ∧ Below w.heap.size w w' := by
  have hlt := cell_lt c0
  have hB0 : ∀ A, Below w.heap.size w (w.alloc (.cells A 26)) := fun A => by go_grown
  have hi26 : Hid ((Yba.prog.info? 26).map (·.size) = some kc.length) := by show _ = _; rw [hkl]; kernel_rfl
  have hi33 : Hid ((Yba.prog.info? 33).map (·.size) = some ad.length) := by show _ = _; rw [hal]; kernel_rfl
  have hg := get_any bk bm kc ad v ok (w.alloc (.cells kc.toArray 26)) (((hB0 _).cell hlt).trans c0) (((hB0 _).frozen hlt).trans f0) (((hB0 _).cell hlt).trans c2)
    (hl.later ((hB0 _).block bm hbm)) (by simp; omega) hne hkl (hF.later (hB0 _)) hal ha1
  have HG : Hid (Calls _ _ _ _ _) := hg
  clear hg hl hF c0 f0 c2 hB0
  go_enter Yba.func7, Yba.ntmps7
  go_wp2_with (first
    | (refine wpList_load_mid rfl 26 _ rfl _ 0 rfl kc _ (range_of_block (heap_alloc_last _ _)) Yba.underlying26 rfl hi26.out ?_))
  refine HG.out.mono ?_
  rintro e w1 ⟨rfl, hb⟩
  have HB : Hid (Below w.heap.size w w1) := via (by go_grown) hb
  clear hb HG
  go_wp2_with (first
    | (refine wpList_store_rowTo rfl 33 _ _ rfl rfl _ ad.toArray rfl rfl 33 _ (heap_alloc_last _ _) (by simpa using hi33.out) (by simp [hal]) (all_oneCell_toArray ha1) ?_; rw [World.setRow_alloc_new]))
  go_ret
  exact ⟨rfl, HB.out.alloc HB.out.size _⟩
end Go.Proofs.Ybulkbcag
