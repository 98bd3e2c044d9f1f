/-
  OWN TEXT. Plain arithmetic of the 128-by-64-bit division: one digit's guess and its corrections; the shifts.
-/
import Derived.Test.YbulkbcbwDoorShelf
import Derived.Test.YbulkbcbwDoorRows
import Derived.Laws.Bits64
import Derived.Laws.Bits64b
import Derived.Lib.ItoaNum
namespace Go.Proofs.YbulkbcbwDoor
/-- The key: q * Y, laid out by the divisor's halves. -/
theorem guess_key (Y y1 y0 U q r : Nat) (hY : Y = y1 * 4294967296 + y0) (hqr : q * y1 + r = U) : q * Y + r * 4294967296 = U * 4294967296 + q * y0 := by
  subst hY hqr
  rw [Nat.mul_add, Nat.add_mul, ← Nat.mul_assoc]
  omega
theorem lin1 (P R V u S : Nat) (h1 : P + R = V + S) (h2 : R + u < S) : V + u < P := by omega
theorem lin2 (P R V u S : Nat) (h1 : P + R = V + S) (h2 : S ≤ R + u) : P ≤ V + u := by omega
theorem far_above (B Y q U u : Nat) (hU : U < Y) (hu : u < B) (h : B ≤ q) : U * B + u < q * Y := by
  have h1 : U * B + u < (U + 1) * B := by rw [Nat.add_mul, Nat.one_mul]; omega
  have h2 : (U + 1) * B ≤ Y * B := Nat.mul_le_mul_right B hU
  have h3 : Y * B ≤ Y * q := Nat.mul_le_mul_left Y h
  rw [Nat.mul_comm q Y]
  exact Nat.lt_of_lt_of_le h1 (Nat.le_trans h2 h3)
theorem far_below (B q y r u : Nat) (hq : q < B) (hy : y < B) (hr : B ≤ r) : q * y ≤ r * B + u := by
  have h1 : q * y ≤ B * B := Nat.mul_le_mul (Nat.le_of_lt hq) (Nat.le_of_lt hy)
  have h2 : B * B ≤ r * B := Nat.mul_le_mul_right B hr
  exact Nat.le_trans (Nat.le_trans h1 h2) (Nat.le_add_right _ _)
theorem quo_add (B Y V l : Nat) (hY : 0 < Y) : (V * B + l) / Y = V / Y * B + (V % Y * B + l) / Y := by
  have h2 : V * B + l = Y * (V / Y * B) + (V % Y * B + l) := by
    conv => lhs; rw [← Nat.div_add_mod V Y]
    rw [Nat.add_mul, Nat.mul_assoc, Nat.add_assoc]
  rw [h2, Nat.mul_add_div hY]
theorem guess_high (Y y1 y0 U u q r : Nat) (hY : Y = y1 * 4294967296 + y0) (hU : U < Y) (hu : u < 4294967296) (hqr : q * y1 + r = U) (h : 4294967296 ≤ q ∨ r * 4294967296 + u < q * y0) : (U * 4294967296 + u) / Y < q := by
  rw [Nat.div_lt_iff_lt_mul (by omega)]
  rcases h with h | h
  · exact far_above _ _ _ _ _ hU hu h
  · exact lin1 _ _ _ _ _ (guess_key Y y1 y0 U q r hY hqr) h
theorem guess_low (Y y1 y0 U u q r : Nat) (hY : Y = y1 * 4294967296 + y0) (hU : U < Y) (hqr : q * y1 + r = U) (h : q * y0 ≤ r * 4294967296 + u) : q ≤ (U * 4294967296 + u) / Y := by
  rw [Nat.le_div_iff_mul_le (by omega)]
  exact lin2 _ _ _ _ _ (guess_key Y y1 y0 U q r hY hqr) h
theorem guess_break (Y y1 y0 U u q r : Nat) (hY : Y = y1 * 4294967296 + y0) (hy0 : y0 < 4294967296) (hU : U < Y) (hqr : q * y1 + r = U) (h : 4294967296 ≤ r) : q ≤ (U * 4294967296 + u) / Y := by
  apply guess_low Y y1 y0 U u q r hY hU hqr
  have hq : q < 4294967296 := by
    by_cases hq : q < 4294967296
    · exact hq
    · have h1 : y1 * 4294967296 ≤ y1 * q := Nat.mul_le_mul_left y1 (by omega)
      rw [Nat.mul_comm y1 q] at h1
      omega
  exact far_below _ _ _ _ _ hq hy0 h
theorem quo_lt (Y U u : Nat) (hU : U < Y) (hu : u < 4294967296) : (U * 4294967296 + u) / Y < 4294967296 := by
  rw [Nat.div_lt_iff_lt_mul (by omega)]
  omega
/-- The whole quotient, digit by digit. -/
theorem quo_join (Y U L : Nat) (hY : 0 < Y) (_hL : L < 18446744073709551616) : (U * 18446744073709551616 + L) / Y = (U * 4294967296 + L / 4294967296) / Y * 4294967296 + ((U * 4294967296 + L / 4294967296) % Y * 4294967296 + L % 4294967296) / Y := by
  have e : U * 18446744073709551616 + L = (U * 4294967296 + L / 4294967296) * 4294967296 + L % 4294967296 := by omega
  rw [e]
  exact quo_add _ _ _ _ hY
/-- The shift that makes the divisor's top bit 1. -/
theorem norm_bounds (y b : Nat) (hb : Lib.bitLen y = b) (h0 : 0 < y) (hy : y < 18446744073709551616) : 1 ≤ b ∧ b ≤ 64 ∧ 9223372036854775808 ≤ y * 2 ^ (64 - b) ∧ y * 2 ^ (64 - b) < 18446744073709551616 := by
  have hL : b ≤ 64 := hb ▸ Lib.bitLen_le y 64 (Nat.le_refl _) hy
  obtain ⟨h1, h2, h3⟩ := Lib.bitLenAux_bounds 64 y hy (by omega)
  have hb' : Lib.bitLenAux 64 y = b := hb
  rw [hb'] at h1 h2 h3
  refine ⟨h1, hL, ?_, ?_⟩
  · have h4 : 2 ^ (b - 1) * 2 ^ (64 - b) ≤ y * 2 ^ (64 - b) := Nat.mul_le_mul_right _ h2
    rw [← Nat.pow_add, show b - 1 + (64 - b) = 63 by omega] at h4
    exact h4
  · have h4 : y * 2 ^ (64 - b) < 2 ^ b * 2 ^ (64 - b) := Nat.mul_lt_mul_of_pos_right h3 (Nat.two_pow_pos _)
    rw [← Nat.pow_add, show b + (64 - b) = 64 by omega] at h4
    exact h4
/-- The dividend, shifted alike. -/
theorem shifted (hi lo b : Nat) (h1 : 1 ≤ b) (hb : b ≤ 64) (_hlo : lo < 18446744073709551616) : (hi * 18446744073709551616 + lo) * 2 ^ (64 - b) = (hi * 2 ^ (64 - b) + lo / 2 ^ b) * 18446744073709551616 + lo * 2 ^ (64 - b) % 18446744073709551616 := by
  have hM : 2 ^ b * 2 ^ (64 - b) = 18446744073709551616 := by rw [← Nat.pow_add, show b + (64 - b) = 64 by omega]
  have e2 : lo * 2 ^ (64 - b) = lo / 2 ^ b * 18446744073709551616 + lo % 2 ^ b * 2 ^ (64 - b) := by
    conv => lhs; rw [← Nat.div_add_mod lo (2 ^ b)]
    rw [Nat.add_mul, Nat.mul_right_comm, hM, Nat.mul_comm]
  have hlt : lo % 2 ^ b * 2 ^ (64 - b) < 18446744073709551616 := by
    rw [← hM]
    exact Nat.mul_lt_mul_of_pos_right (Nat.mod_lt _ (Nat.two_pow_pos _)) (Nat.two_pow_pos _)
  rw [Nat.add_mul, Nat.add_mul, Nat.mul_right_comm hi]
  generalize hi * 2 ^ (64 - b) = P at *
  generalize lo / 2 ^ b = D at *
  generalize lo % 2 ^ b * 2 ^ (64 - b) = R at *
  omega
theorem quo_shift (hi lo y b : Nat) (h1 : 1 ≤ b) (hb : b ≤ 64) (hlo : lo < 18446744073709551616) :
    (hi * 18446744073709551616 + lo) / y = ((hi * 2 ^ (64 - b) + lo / 2 ^ b) * 18446744073709551616 + lo * 2 ^ (64 - b) % 18446744073709551616) / (y * 2 ^ (64 - b)) := by
  rw [← shifted hi lo b h1 hb hlo, Nat.mul_div_mul_right _ _ (Nat.two_pow_pos _)]
theorem low_lt (lo b : Nat) (hb : b ≤ 64) (hlo : lo < 18446744073709551616) : lo / 2 ^ b < 2 ^ (64 - b) := by
  rw [Nat.div_lt_iff_lt_mul (Nat.two_pow_pos _), ← Nat.pow_add, show 64 - b + b = 64 by omega]
  exact hlo
theorem top_lt (hi lo y b : Nat) (hb : b ≤ 64) (hlo : lo < 18446744073709551616) (h : hi < y) : hi * 2 ^ (64 - b) + lo / 2 ^ b < y * 2 ^ (64 - b) := by
  have h1 := low_lt lo b hb hlo
  have h2 : (hi + 1) * 2 ^ (64 - b) ≤ y * 2 ^ (64 - b) := Nat.mul_le_mul_right _ h
  rw [Nat.add_mul, Nat.one_mul] at h2
  omega
/-- 'or', where the bits lie apart, is a sum. -/
theorem or_sum (a s c : Nat) (hc : c < 2 ^ s) (h : a * 2 ^ s < 18446744073709551616) (hc2 : c < 18446744073709551616) (_hs : a * 2 ^ s + c < 18446744073709551616) : bits BinOp.or .u64 ((a * 2 ^ s : Nat) : Int) (c : Int) = ((a * 2 ^ s + c : Nat) : Int) := by
  rw [bits_or_u64_nat _ _ h hc2, ← Nat.shiftLeft_eq, ← Nat.shiftLeft_add_eq_or_of_lt hc]
theorem and_low (a : Nat) (ha : a < 18446744073709551616) : bits BinOp.and .u64 (a : Int) 4294967295 = ((a % 4294967296 : Nat) : Int) := by
  have := bits_and_u64_nat a 4294967295 ha (by decide)
  rw [show ((4294967295 : Nat) : Int) = 4294967295 from rfl] at this
  rw [this]
  have e : (4294967295 : Nat) = 2 ^ 32 - 1 := by decide
  rw [e, Nat.and_two_pow_sub_one_eq_mod]
theorem wrap_nat (a : Nat) (h : a < 18446744073709551616) : IntKind.u64.wrap (a : Int) = (a : Int) := by
  rw [IntKind.wrap_u64]
  omega
end Go.Proofs.YbulkbcbwDoor
