/-
  OWN TEXT. bits.Div64 (8), its long way: two digits, each guessed and put right.
-/
import Derived.Test.YbulkbcbwDoorArith
import Derived.WalkKit
import Derived.ProofKit
import Derived.WalkSpells
import Derived.WalkLawsBesides
import Derived.Handy
import Derived.Lib.Hide
namespace Go.Proofs.YbulkbcbwDoor
set_option linter.unusedVariables false
open Go.ChangeShapes Go.WideShapes Go.ChangeAt Go.RowKit
theorem guess_first (Y y1 y0 U q r : Nat) (hY : Y = y1 * 4294967296 + y0) (hy1 : 2147483648 ≤ y1) (hy0 : y0 < 4294967296) (hU : U < Y) (hq : q * y1 + r = U) : q ≤ 8589934592 := by
  by_cases h : q ≤ 8589934592
  · exact h
  · have h1 : y1 * 8589934593 ≤ y1 * q := Nat.mul_le_mul_left y1 (by omega)
    rw [Nat.mul_comm y1 q] at h1
    omega
theorem guess_start (Y y1 y0 U u q r : Nat) (hY : Y = y1 * 4294967296 + y0) (hU : U < Y) (hu : u < 4294967296) (hq : q * y1 + r = U) (hr : r < y1) : (U * 4294967296 + u) / Y ≤ q := by
  have a1 : y1 * 4294967296 ≤ Y := by omega
  have a2 : U * 4294967296 + u < (U + 1) * 4294967296 := by omega
  have a3 : 0 < Y := by omega
  have h2 : (q + 1) * y1 = q * y1 + y1 := by rw [Nat.add_mul, Nat.one_mul]
  have h3 : U + 1 ≤ (q + 1) * y1 := by omega
  have h4 : (U + 1) * 4294967296 ≤ (q + 1) * y1 * 4294967296 := Nat.mul_le_mul_right _ h3
  have h5 : (q + 1) * y1 * 4294967296 ≤ (q + 1) * Y := by
    rw [Nat.mul_assoc]
    exact Nat.mul_le_mul_left _ a1
  exact Nat.le_of_lt_succ ((Nat.div_lt_iff_lt_mul a3).2 (Nat.lt_of_lt_of_le a2 (Nat.le_trans h4 h5)))
theorem small_mul (q y : Nat) (hq : q < 4294967296) (hy : y < 4294967296) : q * y < 18446744073709551616 := by
  have h1 : q * y ≤ 4294967295 * 4294967295 := Nat.mul_le_mul (by omega) (by omega)
  exact Nat.lt_of_le_of_lt h1 (by decide)
theorem wrap_un (U l1 G V : Int) (h : U * 4294967296 + l1 = G + V) (h0 : 0 ≤ V) (h1 : V < 18446744073709551616) : IntKind.u64.wrap (IntKind.u64.wrap (IntKind.u64.wrap (U * 4294967296) + l1) - IntKind.u64.wrap G) = V := by
  simp only [IntKind.wrap_u64]
  omega
theorem wrap_quo (V y : Nat) (h : V < 18446744073709551616) : IntKind.u64.wrap ((V : Int) / (y : Int)) = ((V / y : Nat) : Int) := by
  rw [← Int.natCast_ediv]
  exact wrap_nat _ (Nat.lt_of_le_of_lt (Nat.div_le_self _ _) h)
theorem wrap_rest (V q y r : Nat) (hq : q * y + r = V) (h : V < 18446744073709551616) : IntKind.u64.wrap ((V : Int) - IntKind.u64.wrap ((q : Int) * (y : Int))) = (r : Int) := by
  have e : (q : Int) * (y : Int) + (r : Int) = (V : Int) := by rw [← hq]; simp
  have hr : (r : Int) < 18446744073709551616 := by omega
  generalize (q : Int) * (y : Int) = G at *
  simp only [IntKind.wrap_u64]
  omega
theorem guess_step (q y r U : Nat) (h : (q + 1) * y + r = U) : q * y + (r + y) = U := by
  rw [Nat.add_mul, Nat.one_mul] at h
  omega
set_option maxRecDepth 100000 in
set_option maxHeartbeats 2000000 in
theorem div_core (hi lo y b Y A U L y1 y0 l1 l0 q r : Nat) (hlt : hi < y) (h0 : 0 < hi) (hy : y < 18446744073709551616) (hlo : lo < 18446744073709551616) (w : World)
    (hb : Lib.bitLen y = b) (hL : b ≤ 64) (hY : 0 < Y) (hU : U < Y) (hYM : Y < 18446744073709551616)
    (eY : IntKind.u64.wrap ((y : Int) * 2 ^ (64 - b)) = (Y : Int)) (eA : IntKind.u64.wrap ((hi : Int) * 2 ^ (64 - b)) = (A : Int)) (eU : bits BinOp.or .u64 (A : Int) ((lo : Int) / 2 ^ (64 - (64 - b))) = (U : Int)) (eL : IntKind.u64.wrap ((lo : Int) * 2 ^ (64 - b)) = (L : Int))
    (ey0 : bits BinOp.and .u64 (Y : Int) 4294967295 = (y0 : Int)) (el0 : bits BinOp.and .u64 (L : Int) 4294967295 = (l0 : Int)) (ey1 : (Y : Int) / 4294967296 = (y1 : Int)) (el1 : (L : Int) / 4294967296 = (l1 : Int))
    (eq1 : IntKind.u64.wrap ((U : Int) / (y1 : Int)) = (q : Int)) (er1 : IntKind.u64.wrap ((U : Int) - IntKind.u64.wrap ((q : Int) * (y1 : Int))) = (r : Int))
    (hy1 : 2147483648 ≤ y1) (hy1' : y1 < 4294967296) (hy0 : y0 < 4294967296) (hl1 : l1 < 4294967296) (hl0 : l0 < 4294967296) (hYs : Y = y1 * 4294967296 + y0) (hq : q * y1 + r = U) (hr : r < y1) (hLs : L < 18446744073709551616 ∧ L / 4294967296 = l1 ∧ L % 4294967296 = l0) :
    Calls Ybad.prog 8 #[.int .u64 hi, .int .u64 lo, .int .u64 y] w fun e w' => ∃ rm, e = .returned (.tuple #[.int .u64 ((U * 18446744073709551616 + L) / Y : Nat), .int .u64 rm]) ∧ w = w' := by
  have HYs := Lib.hid hYs
  have HLs := Lib.hid hLs
  have HQ := Lib.hid hq
  clear hYs hLs hq
  go_enter Ybad.func8, Ybad.ntmps8
  go_wp2_with fail
  refine (Ybad.bits_LeadingZeros64 y w (by omega) (by omega)).mono ?_
  rintro e w' ⟨rfl, rfl⟩
  rw [Int.toNat_natCast, hb]
  go_wp2
  have hqB := guess_first Y y1 y0 U q r HYs.out hy1 hy0 hU HQ.out
  obtain ⟨Q, hQ⟩ : ∃ Q, (U * 4294967296 + l1) / Y = Q := ⟨_, rfl⟩
  have HQQ := Lib.hid hQ
  have hq0 := guess_start Y y1 y0 U l1 q r HYs.out hU hl1 HQ.out hr
  rw [hQ] at hq0
  clear hQ
  go_loop [15, 16] (fun a b => ∃ q r : Nat, a = .int .u64 q ∧ b = .int .u64 r ∧ q * y1 + r = U ∧ r < 4294967296 ∧ Q ≤ q ∧ q ≤ 8589934592) (fun a _ => (intOf a).toNat)
  case atStart => exact ⟨q, r, rfl, rfl, HQ.out, by omega, hq0, hqB⟩
  case round =>
    clear eq1 er1 HQ hq0 hqB hr eY eA eU eL ey0 el0 ey1 el1 hlt h0 hy hlo hb
    obtain ⟨g0, t, rfl, rfl, hgt, ht, hgea, hle⟩ := hrel
    have HR := Lib.hid hgt
    clear hgt
    by_cases hbiga : 4294967296 ≤ g0
    · have hgta : Q < g0 := HQQ.out ▸ guess_high Y y1 y0 U l1 g0 t HYs.out hU hl1 HR.out (Or.inl hbiga)
      obtain ⟨g, rfl⟩ : ∃ g, g0 = g + 1 := ⟨g0 - 1, by omega⟩
      have HSa := Lib.hid (guess_step g y1 t U HR.out)
      clear HR
      have hda : ¬ ((g : Int) + 1 < 4294967296) := by omega
      have hea : (4294967296 : Int) ≤ (g : Int) + 1 := by omega
      have hfa : decide ((4294967296 : Int) ≤ (g : Int) + 1) = true := by rw [decide_eq_true_iff]; omega
      by_cases hbra : 4294967296 ≤ t + y1
      · have hb85a : decide ((4294967296 : Int) ≤ (t : Int) + (y1 : Int)) = true := by rw [decide_eq_true_iff]; omega
        have hQqa : g = Q := Nat.le_antisymm (HQQ.out ▸ guess_break Y y1 y0 U l1 g (t + y1) HYs.out hy0 hU HSa.out hbra) (by omega)
        subst hQqa
        obtain ⟨V, hVe⟩ : ∃ V, (U * 4294967296 + l1) % Y = V := ⟨_, rfl⟩
        have hV : V < Y := by rw [← hVe]; exact Nat.mod_lt _ hY
        have hgl : g < 4294967296 := by rw [← HQQ.out]; exact quo_lt Y U l1 hU hl1
        have e21 : IntKind.u64.wrap (IntKind.u64.wrap (IntKind.u64.wrap ((U : Int) * 4294967296) + (l1 : Int)) - IntKind.u64.wrap ((g : Int) * (Y : Int))) = (V : Int) := by
          apply wrap_un
          · have h := Nat.div_add_mod (U * 4294967296 + l1) Y
            rw [HQQ.out, hVe, Nat.mul_comm] at h
            have h2 := congrArg (Nat.cast (R := Int)) h
            simp only [Int.natCast_add, Int.natCast_mul] at h2
            exact h2.symm
          · omega
          · omega
        have HV := Lib.hid hVe
        clear hVe
        obtain ⟨q2, hq2e⟩ : ∃ q2, V / y1 = q2 := ⟨_, rfl⟩
        obtain ⟨r2, hr2e⟩ : ∃ r2, V % y1 = r2 := ⟨_, rfl⟩
        have hq2 : q2 * y1 + r2 = V := by rw [← hq2e, ← hr2e, Nat.mul_comm]; exact Nat.div_add_mod V y1
        have hr2 : r2 < y1 := by rw [← hr2e]; exact Nat.mod_lt _ (by omega)
        have eq2 : IntKind.u64.wrap ((V : Int) / (y1 : Int)) = (q2 : Int) := by rw [wrap_quo V y1 (by omega), hq2e]
        have er2 : IntKind.u64.wrap ((V : Int) - IntKind.u64.wrap ((q2 : Int) * (y1 : Int))) = (r2 : Int) := wrap_rest V q2 y1 r2 hq2 (by omega)
        have HW := Lib.hid hq2
        clear hq2 hq2e hr2e
        obtain ⟨Q2, hQ2⟩ : ∃ Q2, (V * 4294967296 + l0) / Y = Q2 := ⟨_, rfl⟩
        have hqB2 := guess_first Y y1 y0 V q2 r2 HYs.out hy1 hy0 hV HW.out
        have hqS2 := guess_start Y y1 y0 V l0 q2 r2 HYs.out hV hl0 HW.out hr2
        rw [hQ2] at hqS2
        have HQ2 := Lib.hid hQ2
        clear hQ2
        go_wp2
        go_loop [18, 16] (fun a b => ∃ z v : Nat, a = .int .u64 z ∧ b = .int .u64 v ∧ z * y1 + v = V ∧ v < 4294967296 ∧ Q2 ≤ z ∧ z ≤ 8589934592) (fun a _ => (intOf a).toNat)
        case atStart => exact ⟨q2, r2, rfl, rfl, HW.out, by omega, hqS2, hqB2⟩
        case round =>
          clear eq2 er2 HW hqS2 hqB2 hr2 e21
          obtain ⟨z0, v, rfl, rfl, hzv, hv, hgeb, hzle⟩ := hrel
          have HZ := Lib.hid hzv
          clear hzv
          by_cases hbigb : 4294967296 ≤ z0
          · have hgtb : Q2 < z0 := HQ2.out ▸ guess_high Y y1 y0 V l0 z0 v HYs.out hV hl0 HZ.out (Or.inl hbigb)
            obtain ⟨z, rfl⟩ : ∃ z, z0 = z + 1 := ⟨z0 - 1, by omega⟩
            have HSb := Lib.hid (guess_step z y1 v V HZ.out)
            clear HZ
            have hdb : ¬ ((z : Int) + 1 < 4294967296) := by omega
            have heb : (4294967296 : Int) ≤ (z : Int) + 1 := by omega
            have hfb : decide ((4294967296 : Int) ≤ (z : Int) + 1) = true := by rw [decide_eq_true_iff]; omega
            by_cases hbrb : 4294967296 ≤ v + y1
            · have hb85b : decide ((4294967296 : Int) ≤ (v : Int) + (y1 : Int)) = true := by rw [decide_eq_true_iff]; omega
              have hQqb : z = Q2 := Nat.le_antisymm (HQ2.out ▸ guess_break Y y1 y0 V l0 z (v + y1) HYs.out hy0 hV HSb.out hbrb) (by omega)
              subst hQqb
              have hzl : z < 4294967296 := by rw [← HQ2.out]; exact quo_lt Y V l0 hV hl0
              have hfin : (((U * 18446744073709551616 + L) / Y : Nat) : Int) = (g : Int) * 4294967296 + (z : Int) := by
                have hj := quo_join Y U L hY HLs.out.1
                have e1 : L / 4294967296 = l1 := HLs.out.2.1
                have e0 : L % 4294967296 = l0 := HLs.out.2.2
                rw [e1, e0, HQQ.out, HV.out, HQ2.out] at hj
                rw [hj]
                simp
              go_wp2
              go_ret2
              exact ⟨⟨_, rfl⟩, rfl⟩
            · have hb85b : decide ((4294967296 : Int) ≤ (v : Int) + (y1 : Int)) = false := by rw [decide_eq_false_iff_not]; omega
              go_wp2
              go_round
              case rel => exact ⟨z, v + y1, rfl, by go_num, HSb.out, by omega, by omega, by omega⟩
              case measure => simp [intOf]
          · have hd2b : (z0 : Int) < 4294967296 := by omega
            obtain ⟨Pb, hPb⟩ : ∃ Pb, z0 * y0 = Pb := ⟨_, rfl⟩
            have hwb : (z0 : Int) * (y0 : Int) = (Pb : Int) := by rw [← hPb, ← Int.natCast_mul]
            have hPlb : Pb ≤ 18446744073709551615 := by have := small_mul z0 y0 (by omega) hy0; omega
            have HPb := Lib.hid hPb
            clear hPb
            obtain ⟨Tb, hTb⟩ : ∃ Tb, 4294967296 * v = Tb := ⟨_, rfl⟩
            have hTib : (4294967296 : Int) * (v : Int) = (Tb : Int) := by omega
            have hTlb : (Tb : Int) ≤ 18446744069414584320 := by omega
            have HTb := Lib.hid hTb
            clear hTb
            by_cases hcb : Tb + l0 < Pb
            · have hgtb : Q2 < z0 := HQ2.out ▸ guess_high Y y1 y0 V l0 z0 v HYs.out hV hl0 HZ.out (Or.inr (by rw [HPb.out, Nat.mul_comm v, HTb.out]; exact hcb))
              obtain ⟨z, rfl⟩ : ∃ z, z0 = z + 1 := ⟨z0 - 1, by omega⟩
              have HSb := Lib.hid (guess_step z y1 v V HZ.out)
              clear HZ
              have hw2b : ((z : Int) + 1) * (y0 : Int) = (Pb : Int) := by simpa using hwb
              have hdb : (z : Int) + 1 < 4294967296 := by omega
              clear hwb hd2b
              have hcondb : (decide ((4294967296 : Int) ≤ (z : Int) + 1) || decide ((Tb : Int) + (l0 : Int) < (Pb : Int))) = true := by
                rw [Bool.or_eq_true_iff, decide_eq_true_iff, decide_eq_true_iff]
                omega
              by_cases hbrb : 4294967296 ≤ v + y1
              · have hb85b : decide ((4294967296 : Int) ≤ (v : Int) + (y1 : Int)) = true := by rw [decide_eq_true_iff]; omega
                have hQqb : z = Q2 := Nat.le_antisymm (HQ2.out ▸ guess_break Y y1 y0 V l0 z (v + y1) HYs.out hy0 hV HSb.out hbrb) (by omega)
                subst hQqb
                have hzl : z < 4294967296 := by rw [← HQ2.out]; exact quo_lt Y V l0 hV hl0
                have hfin : (((U * 18446744073709551616 + L) / Y : Nat) : Int) = (g : Int) * 4294967296 + (z : Int) := by
                  have hj := quo_join Y U L hY HLs.out.1
                  have e1 : L / 4294967296 = l1 := HLs.out.2.1
                  have e0 : L % 4294967296 = l0 := HLs.out.2.2
                  rw [e1, e0, HQQ.out, HV.out, HQ2.out] at hj
                  rw [hj]
                  simp
                go_wp2
                go_ret2
                exact ⟨⟨_, rfl⟩, rfl⟩
              · have hb85b : decide ((4294967296 : Int) ≤ (v : Int) + (y1 : Int)) = false := by rw [decide_eq_false_iff_not]; omega
                go_wp2
                go_round
                case rel => exact ⟨z, v + y1, rfl, by go_num, HSb.out, by omega, by omega, by omega⟩
                case measure => simp [intOf]
            · obtain ⟨z, hggb⟩ : ∃ z, z = z0 := ⟨_, rfl⟩
              subst hggb
              have hQqb : z = Q2 := Nat.le_antisymm (HQ2.out ▸ guess_low Y y1 y0 V l0 z v HYs.out hV HZ.out (by rw [HPb.out, Nat.mul_comm v, HTb.out]; omega)) hgeb
              subst hQqb
              have hcondb : (decide ((4294967296 : Int) ≤ (z : Int)) || decide ((Tb : Int) + (l0 : Int) < (Pb : Int))) = false := by
                rw [Bool.or_eq_false_iff, decide_eq_false_iff_not, decide_eq_false_iff_not]
                omega
              have hzl : z < 4294967296 := by rw [← HQ2.out]; exact quo_lt Y V l0 hV hl0
              have hfin : (((U * 18446744073709551616 + L) / Y : Nat) : Int) = (g : Int) * 4294967296 + (z : Int) := by
                have hj := quo_join Y U L hY HLs.out.1
                have e1 : L / 4294967296 = l1 := HLs.out.2.1
                have e0 : L % 4294967296 = l0 := HLs.out.2.2
                rw [e1, e0, HQQ.out, HV.out, HQ2.out] at hj
                rw [hj]
                simp
              go_wp2
              go_ret2
              exact ⟨⟨_, rfl⟩, rfl⟩
      · have hb85a : decide ((4294967296 : Int) ≤ (t : Int) + (y1 : Int)) = false := by rw [decide_eq_false_iff_not]; omega
        go_wp2
        go_round
        case rel => exact ⟨g, t + y1, rfl, by go_num, HSa.out, by omega, by omega, by omega⟩
        case measure => simp [intOf]
    · have hd2a : (g0 : Int) < 4294967296 := by omega
      obtain ⟨Pa, hPa⟩ : ∃ Pa, g0 * y0 = Pa := ⟨_, rfl⟩
      have hwa : (g0 : Int) * (y0 : Int) = (Pa : Int) := by rw [← hPa, ← Int.natCast_mul]
      have hPla : Pa ≤ 18446744073709551615 := by have := small_mul g0 y0 (by omega) hy0; omega
      have HPa := Lib.hid hPa
      clear hPa
      obtain ⟨Ta, hTa⟩ : ∃ Ta, 4294967296 * t = Ta := ⟨_, rfl⟩
      have hTia : (4294967296 : Int) * (t : Int) = (Ta : Int) := by omega
      have hTla : (Ta : Int) ≤ 18446744069414584320 := by omega
      have HTa := Lib.hid hTa
      clear hTa
      by_cases hca : Ta + l1 < Pa
      · have hgta : Q < g0 := HQQ.out ▸ guess_high Y y1 y0 U l1 g0 t HYs.out hU hl1 HR.out (Or.inr (by rw [HPa.out, Nat.mul_comm t, HTa.out]; exact hca))
        obtain ⟨g, rfl⟩ : ∃ g, g0 = g + 1 := ⟨g0 - 1, by omega⟩
        have HSa := Lib.hid (guess_step g y1 t U HR.out)
        clear HR
        have hw2a : ((g : Int) + 1) * (y0 : Int) = (Pa : Int) := by simpa using hwa
        have hda : (g : Int) + 1 < 4294967296 := by omega
        clear hwa hd2a
        have hconda : (decide ((4294967296 : Int) ≤ (g : Int) + 1) || decide ((Ta : Int) + (l1 : Int) < (Pa : Int))) = true := by
          rw [Bool.or_eq_true_iff, decide_eq_true_iff, decide_eq_true_iff]
          omega
        by_cases hbra : 4294967296 ≤ t + y1
        · have hb85a : decide ((4294967296 : Int) ≤ (t : Int) + (y1 : Int)) = true := by rw [decide_eq_true_iff]; omega
          have hQqa : g = Q := Nat.le_antisymm (HQQ.out ▸ guess_break Y y1 y0 U l1 g (t + y1) HYs.out hy0 hU HSa.out hbra) (by omega)
          subst hQqa
          obtain ⟨V, hVe⟩ : ∃ V, (U * 4294967296 + l1) % Y = V := ⟨_, rfl⟩
          have hV : V < Y := by rw [← hVe]; exact Nat.mod_lt _ hY
          have hgl : g < 4294967296 := by rw [← HQQ.out]; exact quo_lt Y U l1 hU hl1
          have e21 : IntKind.u64.wrap (IntKind.u64.wrap (IntKind.u64.wrap ((U : Int) * 4294967296) + (l1 : Int)) - IntKind.u64.wrap ((g : Int) * (Y : Int))) = (V : Int) := by
            apply wrap_un
            · have h := Nat.div_add_mod (U * 4294967296 + l1) Y
              rw [HQQ.out, hVe, Nat.mul_comm] at h
              have h2 := congrArg (Nat.cast (R := Int)) h
              simp only [Int.natCast_add, Int.natCast_mul] at h2
              exact h2.symm
            · omega
            · omega
          have HV := Lib.hid hVe
          clear hVe
          obtain ⟨q2, hq2e⟩ : ∃ q2, V / y1 = q2 := ⟨_, rfl⟩
          obtain ⟨r2, hr2e⟩ : ∃ r2, V % y1 = r2 := ⟨_, rfl⟩
          have hq2 : q2 * y1 + r2 = V := by rw [← hq2e, ← hr2e, Nat.mul_comm]; exact Nat.div_add_mod V y1
          have hr2 : r2 < y1 := by rw [← hr2e]; exact Nat.mod_lt _ (by omega)
          have eq2 : IntKind.u64.wrap ((V : Int) / (y1 : Int)) = (q2 : Int) := by rw [wrap_quo V y1 (by omega), hq2e]
          have er2 : IntKind.u64.wrap ((V : Int) - IntKind.u64.wrap ((q2 : Int) * (y1 : Int))) = (r2 : Int) := wrap_rest V q2 y1 r2 hq2 (by omega)
          have HW := Lib.hid hq2
          clear hq2 hq2e hr2e
          obtain ⟨Q2, hQ2⟩ : ∃ Q2, (V * 4294967296 + l0) / Y = Q2 := ⟨_, rfl⟩
          have hqB2 := guess_first Y y1 y0 V q2 r2 HYs.out hy1 hy0 hV HW.out
          have hqS2 := guess_start Y y1 y0 V l0 q2 r2 HYs.out hV hl0 HW.out hr2
          rw [hQ2] at hqS2
          have HQ2 := Lib.hid hQ2
          clear hQ2
          go_wp2
          go_loop [18, 16] (fun a b => ∃ z v : Nat, a = .int .u64 z ∧ b = .int .u64 v ∧ z * y1 + v = V ∧ v < 4294967296 ∧ Q2 ≤ z ∧ z ≤ 8589934592) (fun a _ => (intOf a).toNat)
          case atStart => exact ⟨q2, r2, rfl, rfl, HW.out, by omega, hqS2, hqB2⟩
          case round =>
            clear eq2 er2 HW hqS2 hqB2 hr2 e21
            obtain ⟨z0, v, rfl, rfl, hzv, hv, hgeb, hzle⟩ := hrel
            have HZ := Lib.hid hzv
            clear hzv
            by_cases hbigb : 4294967296 ≤ z0
            · have hgtb : Q2 < z0 := HQ2.out ▸ guess_high Y y1 y0 V l0 z0 v HYs.out hV hl0 HZ.out (Or.inl hbigb)
              obtain ⟨z, rfl⟩ : ∃ z, z0 = z + 1 := ⟨z0 - 1, by omega⟩
              have HSb := Lib.hid (guess_step z y1 v V HZ.out)
              clear HZ
              have hdb : ¬ ((z : Int) + 1 < 4294967296) := by omega
              have heb : (4294967296 : Int) ≤ (z : Int) + 1 := by omega
              have hfb : decide ((4294967296 : Int) ≤ (z : Int) + 1) = true := by rw [decide_eq_true_iff]; omega
              by_cases hbrb : 4294967296 ≤ v + y1
              · have hb85b : decide ((4294967296 : Int) ≤ (v : Int) + (y1 : Int)) = true := by rw [decide_eq_true_iff]; omega
                have hQqb : z = Q2 := Nat.le_antisymm (HQ2.out ▸ guess_break Y y1 y0 V l0 z (v + y1) HYs.out hy0 hV HSb.out hbrb) (by omega)
                subst hQqb
                have hzl : z < 4294967296 := by rw [← HQ2.out]; exact quo_lt Y V l0 hV hl0
                have hfin : (((U * 18446744073709551616 + L) / Y : Nat) : Int) = (g : Int) * 4294967296 + (z : Int) := by
                  have hj := quo_join Y U L hY HLs.out.1
                  have e1 : L / 4294967296 = l1 := HLs.out.2.1
                  have e0 : L % 4294967296 = l0 := HLs.out.2.2
                  rw [e1, e0, HQQ.out, HV.out, HQ2.out] at hj
                  rw [hj]
                  simp
                go_wp2
                go_ret2
                exact ⟨⟨_, rfl⟩, rfl⟩
              · have hb85b : decide ((4294967296 : Int) ≤ (v : Int) + (y1 : Int)) = false := by rw [decide_eq_false_iff_not]; omega
                go_wp2
                go_round
                case rel => exact ⟨z, v + y1, rfl, by go_num, HSb.out, by omega, by omega, by omega⟩
                case measure => simp [intOf]
            · have hd2b : (z0 : Int) < 4294967296 := by omega
              obtain ⟨Pb, hPb⟩ : ∃ Pb, z0 * y0 = Pb := ⟨_, rfl⟩
              have hwb : (z0 : Int) * (y0 : Int) = (Pb : Int) := by rw [← hPb, ← Int.natCast_mul]
              have hPlb : Pb ≤ 18446744073709551615 := by have := small_mul z0 y0 (by omega) hy0; omega
              have HPb := Lib.hid hPb
              clear hPb
              obtain ⟨Tb, hTb⟩ : ∃ Tb, 4294967296 * v = Tb := ⟨_, rfl⟩
              have hTib : (4294967296 : Int) * (v : Int) = (Tb : Int) := by omega
              have hTlb : (Tb : Int) ≤ 18446744069414584320 := by omega
              have HTb := Lib.hid hTb
              clear hTb
              by_cases hcb : Tb + l0 < Pb
              · have hgtb : Q2 < z0 := HQ2.out ▸ guess_high Y y1 y0 V l0 z0 v HYs.out hV hl0 HZ.out (Or.inr (by rw [HPb.out, Nat.mul_comm v, HTb.out]; exact hcb))
                obtain ⟨z, rfl⟩ : ∃ z, z0 = z + 1 := ⟨z0 - 1, by omega⟩
                have HSb := Lib.hid (guess_step z y1 v V HZ.out)
                clear HZ
                have hw2b : ((z : Int) + 1) * (y0 : Int) = (Pb : Int) := by simpa using hwb
                have hdb : (z : Int) + 1 < 4294967296 := by omega
                clear hwb hd2b
                have hcondb : (decide ((4294967296 : Int) ≤ (z : Int) + 1) || decide ((Tb : Int) + (l0 : Int) < (Pb : Int))) = true := by
                  rw [Bool.or_eq_true_iff, decide_eq_true_iff, decide_eq_true_iff]
                  omega
                by_cases hbrb : 4294967296 ≤ v + y1
                · have hb85b : decide ((4294967296 : Int) ≤ (v : Int) + (y1 : Int)) = true := by rw [decide_eq_true_iff]; omega
                  have hQqb : z = Q2 := Nat.le_antisymm (HQ2.out ▸ guess_break Y y1 y0 V l0 z (v + y1) HYs.out hy0 hV HSb.out hbrb) (by omega)
                  subst hQqb
                  have hzl : z < 4294967296 := by rw [← HQ2.out]; exact quo_lt Y V l0 hV hl0
                  have hfin : (((U * 18446744073709551616 + L) / Y : Nat) : Int) = (g : Int) * 4294967296 + (z : Int) := by
                    have hj := quo_join Y U L hY HLs.out.1
                    have e1 : L / 4294967296 = l1 := HLs.out.2.1
                    have e0 : L % 4294967296 = l0 := HLs.out.2.2
                    rw [e1, e0, HQQ.out, HV.out, HQ2.out] at hj
                    rw [hj]
                    simp
                  go_wp2
                  go_ret2
                  exact ⟨⟨_, rfl⟩, rfl⟩
                · have hb85b : decide ((4294967296 : Int) ≤ (v : Int) + (y1 : Int)) = false := by rw [decide_eq_false_iff_not]; omega
                  go_wp2
                  go_round
                  case rel => exact ⟨z, v + y1, rfl, by go_num, HSb.out, by omega, by omega, by omega⟩
                  case measure => simp [intOf]
              · obtain ⟨z, hggb⟩ : ∃ z, z = z0 := ⟨_, rfl⟩
                subst hggb
                have hQqb : z = Q2 := Nat.le_antisymm (HQ2.out ▸ guess_low Y y1 y0 V l0 z v HYs.out hV HZ.out (by rw [HPb.out, Nat.mul_comm v, HTb.out]; omega)) hgeb
                subst hQqb
                have hcondb : (decide ((4294967296 : Int) ≤ (z : Int)) || decide ((Tb : Int) + (l0 : Int) < (Pb : Int))) = false := by
                  rw [Bool.or_eq_false_iff, decide_eq_false_iff_not, decide_eq_false_iff_not]
                  omega
                have hzl : z < 4294967296 := by rw [← HQ2.out]; exact quo_lt Y V l0 hV hl0
                have hfin : (((U * 18446744073709551616 + L) / Y : Nat) : Int) = (g : Int) * 4294967296 + (z : Int) := by
                  have hj := quo_join Y U L hY HLs.out.1
                  have e1 : L / 4294967296 = l1 := HLs.out.2.1
                  have e0 : L % 4294967296 = l0 := HLs.out.2.2
                  rw [e1, e0, HQQ.out, HV.out, HQ2.out] at hj
                  rw [hj]
                  simp
                go_wp2
                go_ret2
                exact ⟨⟨_, rfl⟩, rfl⟩
        · have hb85a : decide ((4294967296 : Int) ≤ (t : Int) + (y1 : Int)) = false := by rw [decide_eq_false_iff_not]; omega
          go_wp2
          go_round
          case rel => exact ⟨g, t + y1, rfl, by go_num, HSa.out, by omega, by omega, by omega⟩
          case measure => simp [intOf]
      · obtain ⟨g, hgga⟩ : ∃ g, g = g0 := ⟨_, rfl⟩
        subst hgga
        have hQqa : g = Q := Nat.le_antisymm (HQQ.out ▸ guess_low Y y1 y0 U l1 g t HYs.out hU HR.out (by rw [HPa.out, Nat.mul_comm t, HTa.out]; omega)) hgea
        subst hQqa
        have hconda : (decide ((4294967296 : Int) ≤ (g : Int)) || decide ((Ta : Int) + (l1 : Int) < (Pa : Int))) = false := by
          rw [Bool.or_eq_false_iff, decide_eq_false_iff_not, decide_eq_false_iff_not]
          omega
        obtain ⟨V, hVe⟩ : ∃ V, (U * 4294967296 + l1) % Y = V := ⟨_, rfl⟩
        have hV : V < Y := by rw [← hVe]; exact Nat.mod_lt _ hY
        have hgl : g < 4294967296 := by rw [← HQQ.out]; exact quo_lt Y U l1 hU hl1
        have e21 : IntKind.u64.wrap (IntKind.u64.wrap (IntKind.u64.wrap ((U : Int) * 4294967296) + (l1 : Int)) - IntKind.u64.wrap ((g : Int) * (Y : Int))) = (V : Int) := by
          apply wrap_un
          · have h := Nat.div_add_mod (U * 4294967296 + l1) Y
            rw [HQQ.out, hVe, Nat.mul_comm] at h
            have h2 := congrArg (Nat.cast (R := Int)) h
            simp only [Int.natCast_add, Int.natCast_mul] at h2
            exact h2.symm
          · omega
          · omega
        have HV := Lib.hid hVe
        clear hVe
        obtain ⟨q2, hq2e⟩ : ∃ q2, V / y1 = q2 := ⟨_, rfl⟩
        obtain ⟨r2, hr2e⟩ : ∃ r2, V % y1 = r2 := ⟨_, rfl⟩
        have hq2 : q2 * y1 + r2 = V := by rw [← hq2e, ← hr2e, Nat.mul_comm]; exact Nat.div_add_mod V y1
        have hr2 : r2 < y1 := by rw [← hr2e]; exact Nat.mod_lt _ (by omega)
        have eq2 : IntKind.u64.wrap ((V : Int) / (y1 : Int)) = (q2 : Int) := by rw [wrap_quo V y1 (by omega), hq2e]
        have er2 : IntKind.u64.wrap ((V : Int) - IntKind.u64.wrap ((q2 : Int) * (y1 : Int))) = (r2 : Int) := wrap_rest V q2 y1 r2 hq2 (by omega)
        have HW := Lib.hid hq2
        clear hq2 hq2e hr2e
        obtain ⟨Q2, hQ2⟩ : ∃ Q2, (V * 4294967296 + l0) / Y = Q2 := ⟨_, rfl⟩
        have hqB2 := guess_first Y y1 y0 V q2 r2 HYs.out hy1 hy0 hV HW.out
        have hqS2 := guess_start Y y1 y0 V l0 q2 r2 HYs.out hV hl0 HW.out hr2
        rw [hQ2] at hqS2
        have HQ2 := Lib.hid hQ2
        clear hQ2
        go_wp2
        go_loop [18, 16] (fun a b => ∃ z v : Nat, a = .int .u64 z ∧ b = .int .u64 v ∧ z * y1 + v = V ∧ v < 4294967296 ∧ Q2 ≤ z ∧ z ≤ 8589934592) (fun a _ => (intOf a).toNat)
        case atStart => exact ⟨q2, r2, rfl, rfl, HW.out, by omega, hqS2, hqB2⟩
        case round =>
          clear eq2 er2 HW hqS2 hqB2 hr2 e21
          obtain ⟨z0, v, rfl, rfl, hzv, hv, hgeb, hzle⟩ := hrel
          have HZ := Lib.hid hzv
          clear hzv
          by_cases hbigb : 4294967296 ≤ z0
          · have hgtb : Q2 < z0 := HQ2.out ▸ guess_high Y y1 y0 V l0 z0 v HYs.out hV hl0 HZ.out (Or.inl hbigb)
            obtain ⟨z, rfl⟩ : ∃ z, z0 = z + 1 := ⟨z0 - 1, by omega⟩
            have HSb := Lib.hid (guess_step z y1 v V HZ.out)
            clear HZ
            have hdb : ¬ ((z : Int) + 1 < 4294967296) := by omega
            have heb : (4294967296 : Int) ≤ (z : Int) + 1 := by omega
            have hfb : decide ((4294967296 : Int) ≤ (z : Int) + 1) = true := by rw [decide_eq_true_iff]; omega
            by_cases hbrb : 4294967296 ≤ v + y1
            · have hb85b : decide ((4294967296 : Int) ≤ (v : Int) + (y1 : Int)) = true := by rw [decide_eq_true_iff]; omega
              have hQqb : z = Q2 := Nat.le_antisymm (HQ2.out ▸ guess_break Y y1 y0 V l0 z (v + y1) HYs.out hy0 hV HSb.out hbrb) (by omega)
              subst hQqb
              have hzl : z < 4294967296 := by rw [← HQ2.out]; exact quo_lt Y V l0 hV hl0
              have hfin : (((U * 18446744073709551616 + L) / Y : Nat) : Int) = (g : Int) * 4294967296 + (z : Int) := by
                have hj := quo_join Y U L hY HLs.out.1
                have e1 : L / 4294967296 = l1 := HLs.out.2.1
                have e0 : L % 4294967296 = l0 := HLs.out.2.2
                rw [e1, e0, HQQ.out, HV.out, HQ2.out] at hj
                rw [hj]
                simp
              go_wp2
              go_ret2
              exact ⟨⟨_, rfl⟩, rfl⟩
            · have hb85b : decide ((4294967296 : Int) ≤ (v : Int) + (y1 : Int)) = false := by rw [decide_eq_false_iff_not]; omega
              go_wp2
              go_round
              case rel => exact ⟨z, v + y1, rfl, by go_num, HSb.out, by omega, by omega, by omega⟩
              case measure => simp [intOf]
          · have hd2b : (z0 : Int) < 4294967296 := by omega
            obtain ⟨Pb, hPb⟩ : ∃ Pb, z0 * y0 = Pb := ⟨_, rfl⟩
            have hwb : (z0 : Int) * (y0 : Int) = (Pb : Int) := by rw [← hPb, ← Int.natCast_mul]
            have hPlb : Pb ≤ 18446744073709551615 := by have := small_mul z0 y0 (by omega) hy0; omega
            have HPb := Lib.hid hPb
            clear hPb
            obtain ⟨Tb, hTb⟩ : ∃ Tb, 4294967296 * v = Tb := ⟨_, rfl⟩
            have hTib : (4294967296 : Int) * (v : Int) = (Tb : Int) := by omega
            have hTlb : (Tb : Int) ≤ 18446744069414584320 := by omega
            have HTb := Lib.hid hTb
            clear hTb
            by_cases hcb : Tb + l0 < Pb
            · have hgtb : Q2 < z0 := HQ2.out ▸ guess_high Y y1 y0 V l0 z0 v HYs.out hV hl0 HZ.out (Or.inr (by rw [HPb.out, Nat.mul_comm v, HTb.out]; exact hcb))
              obtain ⟨z, rfl⟩ : ∃ z, z0 = z + 1 := ⟨z0 - 1, by omega⟩
              have HSb := Lib.hid (guess_step z y1 v V HZ.out)
              clear HZ
              have hw2b : ((z : Int) + 1) * (y0 : Int) = (Pb : Int) := by simpa using hwb
              have hdb : (z : Int) + 1 < 4294967296 := by omega
              clear hwb hd2b
              have hcondb : (decide ((4294967296 : Int) ≤ (z : Int) + 1) || decide ((Tb : Int) + (l0 : Int) < (Pb : Int))) = true := by
                rw [Bool.or_eq_true_iff, decide_eq_true_iff, decide_eq_true_iff]
                omega
              by_cases hbrb : 4294967296 ≤ v + y1
              · have hb85b : decide ((4294967296 : Int) ≤ (v : Int) + (y1 : Int)) = true := by rw [decide_eq_true_iff]; omega
                have hQqb : z = Q2 := Nat.le_antisymm (HQ2.out ▸ guess_break Y y1 y0 V l0 z (v + y1) HYs.out hy0 hV HSb.out hbrb) (by omega)
                subst hQqb
                have hzl : z < 4294967296 := by rw [← HQ2.out]; exact quo_lt Y V l0 hV hl0
                have hfin : (((U * 18446744073709551616 + L) / Y : Nat) : Int) = (g : Int) * 4294967296 + (z : Int) := by
                  have hj := quo_join Y U L hY HLs.out.1
                  have e1 : L / 4294967296 = l1 := HLs.out.2.1
                  have e0 : L % 4294967296 = l0 := HLs.out.2.2
                  rw [e1, e0, HQQ.out, HV.out, HQ2.out] at hj
                  rw [hj]
                  simp
                go_wp2
                go_ret2
                exact ⟨⟨_, rfl⟩, rfl⟩
              · have hb85b : decide ((4294967296 : Int) ≤ (v : Int) + (y1 : Int)) = false := by rw [decide_eq_false_iff_not]; omega
                go_wp2
                go_round
                case rel => exact ⟨z, v + y1, rfl, by go_num, HSb.out, by omega, by omega, by omega⟩
                case measure => simp [intOf]
            · obtain ⟨z, hggb⟩ : ∃ z, z = z0 := ⟨_, rfl⟩
              subst hggb
              have hQqb : z = Q2 := Nat.le_antisymm (HQ2.out ▸ guess_low Y y1 y0 V l0 z v HYs.out hV HZ.out (by rw [HPb.out, Nat.mul_comm v, HTb.out]; omega)) hgeb
              subst hQqb
              have hcondb : (decide ((4294967296 : Int) ≤ (z : Int)) || decide ((Tb : Int) + (l0 : Int) < (Pb : Int))) = false := by
                rw [Bool.or_eq_false_iff, decide_eq_false_iff_not, decide_eq_false_iff_not]
                omega
              have hzl : z < 4294967296 := by rw [← HQ2.out]; exact quo_lt Y V l0 hV hl0
              have hfin : (((U * 18446744073709551616 + L) / Y : Nat) : Int) = (g : Int) * 4294967296 + (z : Int) := by
                have hj := quo_join Y U L hY HLs.out.1
                have e1 : L / 4294967296 = l1 := HLs.out.2.1
                have e0 : L % 4294967296 = l0 := HLs.out.2.2
                rw [e1, e0, HQQ.out, HV.out, HQ2.out] at hj
                rw [hj]
                simp
              go_wp2
              go_ret2
              exact ⟨⟨_, rfl⟩, rfl⟩
end Go.Proofs.YbulkbcbwDoor
