/-
  OWN TEXT. bits.Div64 (8) by a contract.
-/
import Derived.Test.YbulkbcbwDoorDivCore
import Derived.Deep.QuietTactic
import Derived.BigQuiet
namespace Go.Proofs.YbulkbcbwDoor
open Go.ChangeShapes Go.WideShapes Go.ChangeAt Go.RowKit
set_option maxRecDepth 100000 in
set_option maxHeartbeats 1000000 in
theorem div_zero (lo y : Nat) (h0 : 0 < y) (hy : y < 18446744073709551616) (hlo : lo < 18446744073709551616) (w : World) :
    Calls Ybad.prog 8 #[.int .u64 0, .int .u64 lo, .int .u64 y] w fun e w' => ∃ rm, e = .returned (.tuple #[.int .u64 (lo / y : Nat), .int .u64 rm]) ∧ Below w.heap.size w w' := by
  have hq : lo / y < 18446744073709551616 := Nat.lt_of_le_of_lt (Nat.div_le_self _ _) hlo
  have e1 : IntKind.u64.wrap ((lo : Int) / (y : Int)) = ((lo / y : Nat) : Int) := wrap_quo lo y hlo
  go_enter Ybad.func8, Ybad.ntmps8
  go_wp2_with fail
  go_quiet (fail)
  go_wp2
  go_ret2
  exact ⟨_, rfl, ⟨rfl, rfl, rfl, Nat.le_refl _, fun _ _ => rfl⟩⟩
theorem div_all (hi lo y : Nat) (hlt : hi < y) (hy : y < 18446744073709551616) (hlo : lo < 18446744073709551616) (w : World) :
    Calls Ybad.prog 8 #[.int .u64 hi, .int .u64 lo, .int .u64 y] w fun e w' => ∃ rm, e = .returned (.tuple #[.int .u64 ((hi * 18446744073709551616 + lo) / y : Nat), .int .u64 rm]) ∧ Below w.heap.size w w' := by
  by_cases h0 : 0 < hi
  · obtain ⟨b, hb⟩ : ∃ b, Lib.bitLen y = b := ⟨_, rfl⟩
    obtain ⟨b1, b2, b3, b4⟩ := norm_bounds y b hb (by omega) hy
    have hU := top_lt hi lo y b b2 hlo hlt
    have hA : hi * 2 ^ (64 - b) < 18446744073709551616 := Nat.lt_of_le_of_lt (Nat.le_add_right _ _) (Nat.lt_trans hU b4)
    have hlow := low_lt lo b b2 hlo
    have hs : lo / 2 ^ b < 18446744073709551616 := Nat.lt_of_le_of_lt (Nat.div_le_self _ _) hlo
    have hLM : lo * 2 ^ (64 - b) % 18446744073709551616 < 18446744073709551616 := Nat.mod_lt _ (by decide)
    rw [quo_shift hi lo y b b1 b2 hlo]
    have eA : IntKind.u64.wrap ((hi : Int) * 2 ^ (64 - b)) = ((hi * 2 ^ (64 - b) : Nat) : Int) := by
      have := wrap_nat _ hA
      simpa using this
    have eY : IntKind.u64.wrap ((y : Int) * 2 ^ (64 - b)) = ((y * 2 ^ (64 - b) : Nat) : Int) := by
      have := wrap_nat _ b4
      simpa using this
    have eL : IntKind.u64.wrap ((lo : Int) * 2 ^ (64 - b)) = ((lo * 2 ^ (64 - b) % 18446744073709551616 : Nat) : Int) := by
      rw [IntKind.wrap_u64, Int.natCast_emod]
      simp
    have eU : bits BinOp.or .u64 ((hi * 2 ^ (64 - b) : Nat) : Int) ((lo : Int) / 2 ^ (64 - (64 - b))) = ((hi * 2 ^ (64 - b) + lo / 2 ^ b : Nat) : Int) := by
      have e : ((lo : Int) / 2 ^ (64 - (64 - b))) = ((lo / 2 ^ b : Nat) : Int) := by
        rw [show 64 - (64 - b) = b by omega]
        simp
      rw [e]
      exact or_sum hi (64 - b) (lo / 2 ^ b) hlow hA hs (Nat.lt_trans hU b4)
    generalize hi * 2 ^ (64 - b) + lo / 2 ^ b = U at *
    generalize y * 2 ^ (64 - b) = Y at *
    generalize lo * 2 ^ (64 - b) % 18446744073709551616 = L at *
    generalize hi * 2 ^ (64 - b) = A at *
    have c := div_core hi lo y b Y A U L (Y / 4294967296) (Y % 4294967296) (L / 4294967296) (L % 4294967296) (U / (Y / 4294967296)) (U % (Y / 4294967296)) hlt h0 hy hlo w hb b2 (by omega) hU b4 eY eA eU eL (and_low Y b4) (and_low L hLM) (by simp) (by simp) (wrap_quo U _ (by omega)) (wrap_rest U _ _ _ (by rw [Nat.mul_comm]; exact Nat.div_add_mod _ _) (by omega))
      (by omega) (by omega) (by omega) (by omega) (by omega) (by omega) (by rw [Nat.mul_comm]; exact Nat.div_add_mod _ _) (Nat.mod_lt _ (by omega)) ⟨hLM, rfl, rfl⟩
    refine c.mono ?_
    rintro e w' ⟨rm, rfl, rfl⟩
    exact ⟨rm, rfl, Below.refl _ _⟩
  · obtain rfl : hi = 0 := by omega
    have := div_zero lo y (by omega) hy hlo w
    simpa using this
end Go.Proofs.YbulkbcbwDoor
