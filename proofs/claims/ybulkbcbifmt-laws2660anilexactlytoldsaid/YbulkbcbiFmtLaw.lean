/-
  OWN TEXT. The law (3) walked.
-/
import Derived.Test.YbulkbcbiFmtPlacesFn
namespace Go.Proofs.YbulkbcbiFmt
open Go.ChangeShapes Go.WideShapes Go.ChangeAt Go.RowKit
theorem below_more {B : Nat} {w w' : World} (h : Below w.heap.size w w') (hB : B ≤ w.heap.size) : Below B w w' := ⟨h.os, h.tape, h.output, h.size, fun k hk => h.block k (by omega)⟩
theorem Strs.below {w w' : World} {b o m : Nat} {f : Nat → ByteArray} (h : Strs w b o m f) (hb : Below w.heap.size w w') : Strs w' b o m f := fun j hj => (hb.cell (block_lt_of_cell (h j hj))).trans (h j hj)
theorem Places.below {w w' : World} {b o n m : Nat} {g : Nat → Nat} (h : Places w b o n m g) (hb : Below w.heap.size w w') : Places w' b o n m g := fun j hj => ⟨(hb.cell (block_lt_of_cell (h j hj).1)).trans (h j hj).1, (h j hj).2⟩
theorem Head.below {w w' : World} (h : Head w) (hb : Below w.heap.size w w') : Head w' := by
  obtain ⟨b, o, f, h0, h1⟩ := h
  exact ⟨b, o, f, (hb.cell (block_lt_of_cell h0)).trans h0, h1.below hb⟩
theorem places_of_own {w : World} {base g n m M : Nat} {r : Nat → Nat} (h : w.ownsRow base 3 1 (.slice (some ⟨g, 0, none⟩) n n) n (placesOf M r n)) (hM : 0 < M) (h6 : M ≤ 6) (hm : M ≤ m) : Places w g 0 n m (fun j => r j % M) := by
  intro j hj
  have hlt : r j % M < M := Nat.mod_lt _ hM
  refine ⟨?_, Nat.lt_of_lt_of_le hlt hm, Nat.lt_of_lt_of_le hlt h6⟩
  obtain ⟨_, ⟨h1, _⟩ | ⟨g', cap, cur, h1, _, h2, _, _, _, h3⟩⟩ := h
  · cases h1
  · cases h1
    have e : cur.toList[j]? = (placesOf M r n)[j]? := by
      rw [← h3, Nat.mul_one, List.getElem?_take, if_pos hj]
    have e2 : (placesOf M r n)[j]? = some (.int .i64 ((r j % M : Nat) : Int)) := by
      simp [placesOf, hj]
    rw [e2] at e
    simp [World.cell?, h2]
    simpa using e
set_option maxHeartbeats 400000 in
theorem law_long (fa ra : Option Addr) (m fc n rc : Nat) (kd : ByteArray) (w : World) (h : 1024 < m ∨ (¬ 1024 < m ∧ 1024 < n)) :
    Calls Ybaf.prog 3 #[.slice fa m fc, .string kd, .slice ra n rc] w fun e w' => e = .returned (.bool true) ∧ Below w.heap.size w w' := by
  rcases h with h | ⟨h1, h2⟩
  · go_enter Ybaf.func3, Ybaf.ntmps3
    go_wp2
    go_ret
    exact ⟨rfl, Below.refl _ _⟩
  · go_enter Ybaf.func3, Ybaf.ntmps3
    go_wp2
    go_ret
    exact ⟨rfl, Below.refl _ _⟩
set_option maxHeartbeats 400000 in
theorem check_none (fa pa : Option Addr) (m fc pc : Nat) (kd : ByteArray) (w : World) :
    Calls Ybaf.prog 6 #[.slice fa m fc, .string kd, .slice pa 0 pc] w fun e w' => e = .returned .nilIface ∧ w = w' := by
  go_enter Ybaf.func6, Ybaf.ntmps6
  go_wp2
  go_loop [11] (fun b => b = .int .i64 0) (fun b => 0)
  case atStart => rfl
  case round =>
    subst hrel
    go_wp2
    go_ret
    exact ⟨rfl, rfl⟩
set_option maxHeartbeats 400000 in
theorem law_zero (fa ra : Option Addr) (fc n rc : Nat) (kd : ByteArray) (w : World) (h : ¬ 1024 < n) :
    Calls Ybaf.prog 3 #[.slice fa 0 fc, .string kd, .slice ra n rc] w fun e w' => e = .returned (.bool true) ∧ Below w.heap.size w w' := by
  go_enter Ybaf.func3, Ybaf.ntmps3
  go_wp2_with fail
  refine (places_none fa ra fc n rc w).mono ?_
  rintro e w' ⟨rfl, rfl⟩
  go_wp2_with fail
  refine (check_none _ _ _ _ _ _ _).mono ?_
  rintro e w' ⟨rfl, rfl⟩
  go_wp2
  go_loop [9, 29] (fun a b => a = .bool true ∧ b = .int .i64 0) (fun _ b => 0)
  case atStart => exact ⟨rfl, rfl⟩
  case round =>
    obtain ⟨rfl, rfl⟩ := hrel
    go_wp2
    go_ret
    exact ⟨rfl, Below.refl _ _⟩
set_option maxHeartbeats 1000000 in
theorem law_some (ra : Option Addr) (fb fo m fc n rc : Nat) (f : Nat → ByteArray) (r : Nat → Nat) (kd : ByteArray) (w : World) (h0 : 0 < m) (hm : ¬ 1024 < m) (hn : ¬ 1024 < n) (hf : Strs w fb fo m f) (hr : Raws w ra n r) (hh : Head w) :
    Calls Ybaf.prog 3 #[.slice (some ⟨fb, fo, none⟩) m fc, .string kd, .slice ra n rc] w fun e w' => e = .returned (.bool true) ∧ Below w.heap.size w w' := by
  obtain ⟨M, hM, hM0, hM6, hMm⟩ : ∃ M, ((6 < m ∧ M = 6) ∨ (¬ 6 < m ∧ M = m)) ∧ 0 < M ∧ M ≤ 6 ∧ M ≤ m := by
    by_cases h6 : 6 < m
    · exact ⟨6, Or.inl ⟨h6, rfl⟩, by omega, by omega, by omega⟩
    · exact ⟨m, Or.inr ⟨h6, rfl⟩, by omega, by omega, by omega⟩
  have HF := Lib.hid hf
  have HR := Lib.hid hr
  have HH := Lib.hid hh
  have HM := Lib.hid hM
  clear hf hr hh hM
  go_enter Ybaf.func3, Ybaf.ntmps3
  go_wp2_with fail
  refine (places_some _ ra m fc n rc M r w h0 (by omega) HM.out HR.out).mono ?_
  rintro e w1 ⟨rfl, hown, hb1⟩
  have HP1 := Lib.hid (places_of_own (m := m) hown hM0 hM6 hMm)
  have HF1 := Lib.hid (HF.out.below hb1)
  have HH1 := Lib.hid (HH.out.below hb1)
  have HB1 := Lib.hid hb1
  clear hown hb1 HR HM
  generalize hpb : w.heap.size = pb at *
  go_wp2_with fail
  refine (check_some fb fo m fc pb 0 n n f (fun j => r j % M) kd w1 (by omega) HF1.out HP1.out HH1.out).mono ?_
  rintro e w2 ⟨hres, hb2⟩
  have HP2 := Lib.hid (HP1.out.below hb2)
  have HF2 := Lib.hid (HF1.out.below hb2)
  have HB2 := Lib.hid (HB1.out.trans (below_more hb2 (by rw [← hpb]; exact HB1.out.size)))
  clear hb2 HP1 HF1 HH1 HB1 HF HH
  rcases hres with ⟨rfl, hall⟩ | ⟨p, rfl, hex⟩
  · have HA := Lib.hid hall
    clear hall
    go_wp2
    go_loop [9, 29] (fun a b => ∃ k : Nat, k ≤ n ∧ a = .bool true ∧ b = .int .i64 k) (fun _ b => n - (intOf b).toNat)
    case atStart => exact ⟨0, Nat.zero_le _, rfl, rfl⟩
    case round =>
      obtain ⟨k, hk, rfl, rfl⟩ := hrel
      by_cases hlt : k < n
      · obtain ⟨c1, c2, c3⟩ := HP2.out k hlt
        have c4 := HF2.out _ c2
        rw [HA.out k hlt] at c4
        simp only [Nat.zero_add] at c1 c2 c3 c4
        generalize r k % M = gk at *
        go_wp2
        go_round
        case rel => exact ⟨k + 1, by omega, rfl, by go_num⟩
        case measure => simp [intOf]; omega
      · obtain rfl : k = n := by omega
        go_wp2
        go_ret
        exact ⟨rfl, HB2.out⟩
  · have HX := Lib.hid hex
    clear hex
    go_wp2
    go_loop [9, 29] (fun a b => ∃ (k : Nat) (q : Bool), k ≤ n ∧ a = .bool q ∧ b = .int .i64 k ∧ (q = true → ∀ j, j < k → f (r j % M) = ⟨#[]⟩)) (fun _ b => n - (intOf b).toNat)
    case atStart => exact ⟨0, true, Nat.zero_le _, rfl, rfl, fun _ j hj => absurd hj (by omega)⟩
    case round =>
      obtain ⟨k, q, hk, rfl, rfl, hq⟩ := hrel
      have HQ := Lib.hid hq
      clear hq
      by_cases hlt : k < n
      · obtain ⟨c1, c2, c3⟩ := HP2.out k hlt
        have c4 := HF2.out _ c2
        simp only [Nat.zero_add] at c1 c2 c3 c4
        by_cases he : f (r k % M) = ⟨#[]⟩
        · have HE := Lib.hid he
          rw [he] at c4
          clear he
          generalize hgk : r k % M = gk at *
          go_wp2
          go_round
          case rel =>
            refine ⟨k + 1, q, by omega, rfl, by go_num, fun hq j hj => ?_⟩
            by_cases h1 : j = k
            · rw [h1, hgk]; exact HE.out
            · exact HQ.out hq j (by omega)
          case measure => simp [intOf]; omega
        · have he' := some_byte _ he
          clear he
          generalize hgk : r k % M = gk at *
          go_wp2
          go_round
          case rel => exact ⟨k + 1, false, by omega, rfl, by go_num, fun h => by cases h⟩
          case measure => simp [intOf]; omega
      · obtain rfl : k = n := by omega
        obtain rfl : q = false := by
          cases q with
          | false => rfl
          | true =>
            obtain ⟨j, hj, hne⟩ := HX.out
            exact absurd (HQ.out rfl j hj) hne
        go_wp2
        go_ret
        exact ⟨rfl, HB2.out⟩
end Go.Proofs.YbulkbcbiFmt
