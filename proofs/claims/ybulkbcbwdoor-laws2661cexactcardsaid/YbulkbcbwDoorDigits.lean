/-
  OWN TEXT. digitsValue (9) and zzs2661cdigits (6) by contracts; decimal numbers as sums.
-/
import Derived.Test.YbulkbcbwDoorArith
import Derived.WalkKit
import Derived.ProofKit
import Derived.WalkSpells
import Derived.WalkLawsBesides
import Derived.Handy
import Derived.Lib.Hide
namespace Go.Proofs.YbulkbcbwDoor
open Go.ChangeShapes Go.WideShapes Go.ChangeAt Go.RowKit
/-- The number that k decimal digits spell, from the a-th on. -/
def V (f : Nat → Nat) (a : Nat) : Nat → Nat
  | 0 => 0
  | k + 1 => V f a k * 10 + f (a + k)
theorem V_lt (f : Nat → Nat) (hf : ∀ j, f j < 10) (a k : Nat) : V f a k < 10 ^ k := by
  induction k with
  | zero => simp [V]
  | succ k ih =>
    have := hf (a + k)
    rw [V, Nat.pow_succ]
    omega
theorem V_join (f : Nat → Nat) (a j k : Nat) : V f a (j + k) = V f a j * 10 ^ k + V f (a + j) k := by
  induction k with
  | zero => simp [V]
  | succ k ih =>
    rw [← Nat.add_assoc, V, V, ih, Nat.pow_succ, ← Nat.mul_assoc, Nat.add_mul, Nat.add_assoc a j k]
    omega
theorem V_shift (f : Nat → Nat) (a k : Nat) : V (fun j => f (a + j)) 0 k = V f a k := by
  induction k with
  | zero => rfl
  | succ k ih => rw [V, V, ih, Nat.zero_add]
theorem V_congr (f g : Nat → Nat) (a k : Nat) (h : ∀ j, j < k → f (a + j) = g (a + j)) : V f a k = V g a k := by
  induction k with
  | zero => rfl
  | succ k ih => rw [V, V, ih (fun j hj => h j (by omega)), h k (by omega)]
/-- A string of decimal digits. -/
def IsDig (p : ByteArray) (f : Nat → Nat) : Prop := ∀ j (h : j < p.size), p[j].toNat = 48 + f j
theorem pow_small (k : Nat) (hk : k ≤ 19) : 10 ^ k ≤ 10000000000000000000 := by
  have := Nat.pow_le_pow_right (n := 10) (by omega) hk
  exact this
set_option maxHeartbeats 400000 in
theorem value_of (p : ByteArray) (f : Nat → Nat) (hp : p.size ≤ 19) (hd : IsDig p f) (hf : ∀ j, f j < 10) (w : World) :
    Calls Ybad.prog 9 #[.string p] w fun e w' => e = .returned (.int .u64 (V f 0 p.size)) ∧ w = w' := by
  have HD := Lib.hid hd
  have HF := Lib.hid hf
  clear hd hf
  go_enter Ybad.func9, Ybad.ntmps9
  go_wp2
  go_loop [3, 4] (fun a b => ∃ k : Nat, k ≤ p.size ∧ b = .int .i64 k ∧ a = .int .u64 (V f 0 k)) (fun _ b => p.size - (intOf b).toNat)
  case atStart => exact ⟨0, Nat.zero_le _, rfl, rfl⟩
  case round =>
    obtain ⟨k, hk, rfl, rfl⟩ := hrel
    by_cases hlt : k < p.size
    · have h1 := HD.out k hlt
      have h2 := HF.out k
      have h3 : V f 0 k < 1000000000000000000 := Nat.lt_of_lt_of_le (V_lt f HF.out 0 k) (Nat.pow_le_pow_right (n := 10) (i := k) (j := 18) (by omega) (by omega))
      have HS : Hid (V f 0 (k + 1) = V f 0 k * 10 + f k) := by show _ = _; rw [V, Nat.zero_add]
      generalize V f 0 k = v at *
      go_wp2
      go_round
      case rel =>
        refine ⟨k + 1, by omega, by go_num, ?_⟩
        rw [HS.out]
        go_num
      case measure => simp [intOf]; omega
    · obtain rfl : k = p.size := by omega
      go_wp2
      go_ret
      exact ⟨rfl, rfl⟩
end Go.Proofs.YbulkbcbwDoor
