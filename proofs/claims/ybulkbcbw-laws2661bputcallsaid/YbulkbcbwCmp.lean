/-
  OWN TEXT. Contracts over the seat's translation, shared by both statements of seat b2661a: u128.less (9), Q64.Cmp (8), zzs2661bsign (6), aboveJump (7).
-/
import Derived.Test.YbulkbcbwRows
import Derived.WalkKit
import Derived.ProofKit
import Derived.WalkSpells
import Derived.WalkLawsBesides
import Derived.Handy
import Derived.RegionTactic
import Derived.Deep.RegionHeld3
import Derived.Deep.DrawnRows
namespace Go.Proofs.Ybulkbcbw
open Go.ChangeShapes Go.WideShapes Go.ChangeAt Go.RowKit
def lessB (a b c d : Int) : Bool := decide (a < c ∨ (a = c ∧ b < d))
theorem ret_bool {a b : Bool} (h : a = b) : Ending.returned (.bool a) = .returned (.bool b) := by rw [h]
theorem lt_T {a b c d : Int} (h : a < c ∨ (a = c ∧ b < d)) : lessB a b c d = true := by simpa [lessB] using h
theorem lt_F {a b c d : Int} (h : ¬ (a < c ∨ (a = c ∧ b < d))) : lessB a b c d = false := by simpa [lessB] using h
set_option maxHeartbeats 400000 in
theorem less_any (a b c d : Int) (w : World) :
    Calls Yba.prog 9 #[.agg #[.int .u64 a, .int .u64 b], .agg #[.int .u64 c, .int .u64 d]] w fun e w' => e = .returned (.bool (lessB a b c d)) ∧ Below w.heap.size w w' := by
  by_cases h : a < c
  · rw [lt_T (.inl h)]
    go_enter Yba.func9, Yba.ntmps9
    go_wp2
    go_ret
    exact ⟨rfl, by go_grown⟩
  · by_cases h2 : a = c
    · subst h2
      by_cases h3 : b < d
      · rw [lt_T (.inr ⟨rfl, h3⟩)]
        go_enter Yba.func9, Yba.ntmps9
        go_wp2
        go_ret
        exact ⟨rfl, by go_grown⟩
      · rw [lt_F (by omega)]
        go_enter Yba.func9, Yba.ntmps9
        go_wp2
        go_ret
        exact ⟨rfl, by go_grown⟩
    · rw [lt_F (by omega)]
      have h4 : (a == c) = false := by simpa using h2
      go_enter Yba.func9, Yba.ntmps9
      go_wp2
      go_ret
      exact ⟨rfl, by go_grown⟩
def cmpI (X b Z d : Int) : Int := bif lessB X b Z d then -1 else bif lessB Z d X b then 1 else 0
theorem bcell {W w1 : World} (hb : Below W.heap.size W w1) : (∀ b o, b < W.heap.size → w1.cell? ⟨b, o, none⟩ = W.cell? ⟨b, o, none⟩) ∧ (∀ b o, b < W.heap.size → w1.frozen? ⟨b, o, none⟩ = W.frozen? ⟨b, o, none⟩) :=
  ⟨fun b o h => hb.cell (p := ⟨b, o, none⟩) h, fun b o h => hb.frozen (p := ⟨b, o, none⟩) h⟩
theorem via {w W w1 : World} (h : Below w.heap.size w W) (hb : Below W.heap.size W w1) : Below w.heap.size w w1 := h.trans (hb.mono h.size)
theorem ret_int {k : IntKind} {a b : Int} (h : a = b) : Ending.returned (.int k a) = .returned (.int k b) := by rw [h]
set_option maxHeartbeats 1000000 in
theorem cmp_any (a b c d : Int) (w : World) :
    Calls Yba.prog 8 #[.agg #[.int .u64 a, .int .u64 b], .agg #[.int .u64 c, .int .u64 d]] w fun e w' => e = .returned (.int .i64 (cmpI (bits .xor .u64 a 9223372036854775808) b (bits .xor .u64 c 9223372036854775808) d)) ∧ Below w.heap.size w w' := by
  go_enter Yba.func8, Yba.ntmps8
  go_wp2
  go_region_held3 (fun w' => w'.cell? ⟨w.heap.size, 0, none⟩ = some (.int .u64 a) ∧ w'.cell? ⟨w.heap.size, 1, none⟩ = some (.int .u64 b) ∧ w'.cell? ⟨w.heap.size + 1, 0, none⟩ = some (.int .u64 c) ∧ w'.cell? ⟨w.heap.size + 1, 1, none⟩ = some (.int .u64 d)) (go_keep) (fail)
  all_goals
    rename_i hh
    clear hh
    generalize hX : bits BinOp.xor IntKind.u64 a 9223372036854775808 = X
    generalize hZ : bits BinOp.xor IntKind.u64 c 9223372036854775808 = Z
    have HX : Hid (bits BinOp.xor IntKind.u64 a 9223372036854775808 = X) := hX
    have HZ : Hid (bits BinOp.xor IntKind.u64 c 9223372036854775808 = Z) := hZ
    clear hX hZ
    go_wp2_with fail
    refine (less_any X b Z d _).mono ?_
    rintro e w1 ⟨rfl, hb⟩
    cases hL : lessB X b Z d
    · obtain ⟨hc, hf⟩ := bcell hb
      have HB : Hid (Below w.heap.size w w1) := via (by go_grown) hb
      clear hb
      go_wp2_with fail
      refine (less_any Z d X b _).mono ?_
      rintro e w2 ⟨rfl, hb⟩
      have HB2 : Hid (Below w.heap.size w w2) := via HB.out hb
      clear hb hc hf
      cases hL2 : lessB Z d X b
      all_goals
        go_wp2
        go_ret
        refine ⟨ret_int ?_, HB2.out⟩
        rw [HX.out, HZ.out, cmpI, hL, hL2]; rfl
    · go_wp2
      go_ret
      refine ⟨ret_int ?_, via (by go_grown) hb⟩
      rw [HX.out, HZ.out, cmpI, hL]; rfl
def sg (a b : Int) : Int := if a = 0 ∧ b = 0 then 0 else if 9223372036854775808 ≤ a then -1 else 1
theorem sg1 {a b : Int} (h : a = 0) (h2 : (b == 0) = true) : 0 = sg a b := by simp at h2; simp [sg, h, h2]
theorem sg2 {a b : Int} (h : a = 0) (h2 : (b == 0) = false) : 1 = sg a b := by simp at h2; simp [sg, h, h2]
theorem sg3 {a b : Int} (H : Hid (0 ≤ a ∧ a < 18446744073709551616)) (_h : ¬ a = 0) (h2 : (a / 9223372036854775808 == 1) = true) : -1 = sg a b := by
  have := H.out; simp at h2; unfold sg; rw [if_neg (by omega), if_pos (by omega)]
theorem sg4 {a b : Int} (H : Hid (0 ≤ a ∧ a < 18446744073709551616)) (h : ¬ a = 0) (h2 : (a / 9223372036854775808 == 1) = false) : 1 = sg a b := by
  have := H.out; simp at h2; unfold sg; rw [if_neg (by omega), if_neg (by omega)]
set_option maxHeartbeats 400000 in
theorem sign_any (a b : Int) (w : World) (h0 : 0 ≤ a) (h1 : a < 18446744073709551616) :
    Calls Yba.prog 6 #[.int .u64 a, .int .u64 b] w fun e w' => e = .returned (.int .i64 (sg a b)) ∧ w = w' := by
  have H0 : Hid (0 ≤ a ∧ a < 18446744073709551616) := ⟨h0, h1⟩
  clear h0 h1
  go_enter Yba.func6, Yba.ntmps6
  go_wp2
  all_goals go_ret
  · exact ⟨ret_int (sg1 ‹_› ‹_›), rfl⟩
  · exact ⟨ret_int (sg2 ‹_› ‹_›), rfl⟩
  · exact ⟨ret_int (sg3 H0 ‹_› ‹_›), rfl⟩
  · exact ⟨ret_int (sg4 H0 ‹_› ‹_›), rfl⟩
theorem xor_lo (n : Nat) (h : n < 2 ^ 63) : n ^^^ 2 ^ 63 = n + 2 ^ 63 := by
  apply Nat.eq_of_testBit_eq
  intro i
  rw [Nat.testBit_xor, Nat.testBit_two_pow, Nat.add_comm]
  rcases Nat.lt_trichotomy i 63 with hi | rfl | hi
  · rw [Nat.testBit_two_pow_add_gt hi, decide_eq_false (by omega), Bool.xor_false]
  · rw [Nat.testBit_two_pow_add_eq]; simp
  · rw [Nat.testBit_lt_two_pow (x := n) (i := i) (Nat.lt_of_lt_of_le h (Nat.pow_le_pow_right (by omega) (by omega)))]
    rw [Nat.testBit_lt_two_pow (x := 2 ^ 63 + n) (i := i) (Nat.lt_of_lt_of_le (m := 2 ^ 64) (by omega) (Nat.pow_le_pow_right (by omega) (by omega))), decide_eq_false (by omega)]
    rfl
theorem xor_hi (n : Nat) (h : n < 2 ^ 63) : (n + 2 ^ 63) ^^^ 2 ^ 63 = n := by
  rw [← xor_lo n h, Nat.xor_assoc, Nat.xor_self, Nat.xor_zero]
theorem flip_lo (a : Int) (h0 : 0 ≤ a) (h1 : a < 9223372036854775808) : bits .xor .u64 a 9223372036854775808 = a + 9223372036854775808 := by
  rw [u64_xor a 9223372036854775808 h0 (by omega) (by omega) (by omega)]
  have := xor_lo a.toNat (by omega)
  rw [show (9223372036854775808 : Int).toNat = 2 ^ 63 from by decide, this]
  omega
theorem flip_hi (a : Int) (h0 : 9223372036854775808 ≤ a) (h1 : a < 18446744073709551616) : bits .xor .u64 a 9223372036854775808 = a - 9223372036854775808 := by
  rw [u64_xor a 9223372036854775808 (by omega) (by omega) (by omega) (by omega)]
  have := xor_hi (a.toNat - 2 ^ 63) (by omega)
  rw [show (9223372036854775808 : Int).toNat = 2 ^ 63 from by decide, show a.toNat = a.toNat - 2 ^ 63 + 2 ^ 63 from by omega, this]
  omega
theorem cmp_sg (a b : Int) (h0 : 0 ≤ a) (h1 : a < 18446744073709551616) (h2 : 0 ≤ b) :
    cmpI (bits .xor .u64 a 9223372036854775808) b (bits .xor .u64 0 9223372036854775808) 0 = sg a b := by
  rw [flip_lo 0 (by omega) (by omega)]
  by_cases h : a < 9223372036854775808
  · rw [flip_lo a h0 h, cmpI, lt_F (by omega)]
    by_cases h3 : a = 0 ∧ b = 0
    · rw [lt_F (by omega)]; simp [sg, h3]
    · rw [lt_T (by omega)]; simp only [sg, if_neg h3, if_neg (show ¬ 9223372036854775808 ≤ a from by omega)]; rfl
  · rw [flip_hi a (by omega) h1, cmpI, lt_T (by omega)]
    simp only [sg, if_neg (show ¬ (a = 0 ∧ b = 0) from by omega), if_pos (show 9223372036854775808 ≤ a from by omega)]; rfl
/-- The range of a uint64, kept from the walk. -/
def U (a : Int) : Prop := 0 ≤ a ∧ a < 18446744073709551616
theorem cmp_zero (a b : Int) (w : World) (ha : U a) (hb : U b) :
    Calls Yba.prog 8 #[.agg #[.int .u64 a, .int .u64 b], .agg #[.int .u64 0, .int .u64 0]] w fun e w' => e = .returned (.int .i64 (sg a b)) ∧ Below w.heap.size w w' := by
  have h := cmp_any a b 0 0 w
  rw [cmp_sg a b ha.1 ha.2 hb.1] at h
  exact h
def aj (mNeg put : Bool) (a b c d : Int) : Bool :=
  bif mNeg then (bif put then decide (0 < sg a b) else decide (0 ≤ sg a b)) else (bif put then decide (sg c d ≤ 0) else decide (sg c d < 0))
set_option maxHeartbeats 1000000 in
theorem above_any (m p : Bool) (a b c d : Int) (s f : Nat) (w : World) (ha : U a) (hb : U b) (hc : U c) (hd : U d)
    (c1 : w.cell? ⟨s, 10, none⟩ = some (.bool p)) (c2 : w.cell? ⟨s, 15, none⟩ = some (.bool m))
    (f1 : w.cell? ⟨f, 0, none⟩ = some (.int .u64 a)) (f2 : w.cell? ⟨f, 1, none⟩ = some (.int .u64 b)) (f3 : w.cell? ⟨f, 2, none⟩ = some (.int .u64 c)) (f4 : w.cell? ⟨f, 3, none⟩ = some (.int .u64 d)) :
    Calls Yba.prog 7 #[.pointer (some ⟨s, 0, none⟩), .pointer (some ⟨f, 0, none⟩)] w fun e w' => e = .returned (.bool (aj m p a b c d)) ∧ Below w.heap.size w w' := by
  cases m <;> cases p
  all_goals
    go_enter Yba.func7, Yba.ntmps7
    go_wp2_with (go_at_call 8; refine (cmp_zero _ _ _ (by assumption) (by assumption)).mono ?_; rintro e w1 ⟨rfl, hb⟩)
    go_ret
    exact ⟨rfl, by assumption⟩
end Go.Proofs.Ybulkbcbw
