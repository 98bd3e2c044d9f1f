/-
  OWN TEXT. zzs2661cmodel (7) by a contract: 64 doublings of the decimal digits.
-/
import Derived.Test.YbulkbcbwDoorDigs
namespace Go.Proofs.YbulkbcbwDoor
open Go.ChangeShapes Go.WideShapes Go.ChangeAt Go.RowKit
theorem carry_mul (v P : Nat) : v % 10 * P + v / 10 * (10 * P) = v * P := by
  rw [← Nat.mul_assoc, ← Nat.add_mul]
  congr 1
  omega
theorem inner_step (g h : Nat → Nat) (n m c : Nat) (hm : m + 1 ≤ n) (heq : h m = g m) (hV : V h (m + 1) (n - (m + 1)) + c * 10 ^ (n - (m + 1)) = 2 * V g (m + 1) (n - (m + 1))) :
    V (fun j => if j = m then (h m * 2 + c) % 10 else h j) m (n - m) + (h m * 2 + c) / 10 * 10 ^ (n - m) = 2 * V g m (n - m) := by
  obtain ⟨k, hk⟩ : ∃ k, n - (m + 1) = k := ⟨_, rfl⟩
  rw [hk] at hV
  rw [show n - m = 1 + k by omega, V_join, V_join g, Nat.pow_add, Nat.pow_one]
  have e1 : V (fun j => if j = m then (h m * 2 + c) % 10 else h j) m 1 = (h m * 2 + c) % 10 := by simp [V]
  have e2 : V g m 1 = h m := by simp [V, heq]
  have e3 : V (fun j => if j = m then (h m * 2 + c) % 10 else h j) (m + 1) k = V h (m + 1) k := V_congr _ _ _ _ (fun j _ => by rw [if_neg (by omega)])
  rw [e1, e2, e3]
  have e4 := carry_mul (h m * 2 + c) (10 ^ k)
  have e5 : (h m * 2 + c) * 10 ^ k = h m * 10 ^ k * 2 + c * 10 ^ k := by rw [Nat.add_mul, Nat.mul_right_comm]
  rw [e5] at e4
  omega
theorem or_carry (r c : Nat) (hr : r < 9223372036854775808) (hc : c ≤ 1) : bits BinOp.or .u64 ((r : Int) * 2) (c : Int) = ((2 * r + c : Nat) : Int) := by
  have h := or_sum r 1 c (by omega) (by omega) (by omega) (by omega)
  have e : ((r * 2 ^ 1 : Nat) : Int) = (r : Int) * 2 := by simp
  rw [e] at h
  rw [h]
  omega
theorem outer_step (r c P x y z t : Nat) (h1 : r * P + x = z * t) (h2 : y + c * P = 2 * x) : (2 * r + c) * P + y = z * (t * 2) := by
  rw [Nat.add_mul, ← Nat.mul_assoc, ← h1, Nat.mul_assoc]
  generalize r * P = a at *
  generalize c * P = b at *
  omega
theorem model_end (f g : Nat → Nat) (n r : Nat) (hg : ∀ j, g j < 10) (h : r * 10 ^ n + V g 0 n = V f 0 n * 2 ^ 64) : r = Fr f 0 n := by
  unfold Fr
  rw [show (18446744073709551616 : Nat) = 2 ^ 64 by decide, ← h, Nat.mul_comm r, Nat.mul_add_div (Nat.pow_pos (by omega)), Nat.div_eq_of_lt (V_lt g hg 0 n)]
  rfl
set_option maxHeartbeats 1000000 in
theorem model_of (ra : Option Addr) (n rc : Nat) (r : Nat → Nat) (w : World) (hn : n ≤ 1024) (hr : Raws w ra n r) :
    Calls Ybad.prog 7 #[.slice ra n rc] w fun e w' => e = .returned (.int .u64 (Fr (fun j => r j % 10) 0 n)) ∧ Below w.heap.size w w' := by
  have hmk := run_make_row' (P := Ybad.prog) 22 5 (.int .u8 0) 1 Ybad.underlying22 info5 rfl .i64 .i64 n (by omega) (by omega)
  have HR := Lib.hid hr
  clear hr
  go_enter Ybad.func7, Ybad.ntmps7
  go_wp2
  go_loopw [4] (fun si wr => ∃ k : Nat, k ≤ n ∧ si = .int .i64 k ∧ Below w.heap.size w wr ∧ ∃ g : Nat → Nat, wr.rowIs w.heap.size 5 n (fun j => .int .u8 (g j)) ∧ ∀ j, j < k → g j = r j % 10) (fun si _ => n - (intOf si).toNat)
  case atStart => exact ⟨0, Nat.zero_le _, rfl, (Below.refl _ w).alloc (Nat.le_refl _) _, fun _ => 0, World.rowIs_made w _ n 5, fun j hj => absurd hj (by omega)⟩
  case round =>
    obtain ⟨k, hk, rfl, hb, g, hrow, hg⟩ := hrel
    have HB := Lib.hid hb
    have HW := Lib.hid hrow
    have HG := Lib.hid hg
    clear hb hrow hg hmk
    by_cases hlt : k < n
    · obtain ⟨b, o, rfl, hc, hl⟩ := HR.out k hlt
      have hc' : wr.cell? ⟨b, o + k, none⟩ = some (.int .u8 (r k)) := (HB.out.cell (block_lt_of_cell hc)).trans hc
      have hc2 := HW.out.cell hlt
      have hf2 := HW.out.frozen k
      clear hc
      go_wp2
      go_roundw
      case rel =>
        refine ⟨k + 1, by omega, by go_num, HB.out.setCell (Nat.le_refl _) _, fun j => if j = k then r k % 10 else g j, (HW.out.set k _).congr ?_, ?_⟩
        · intro j hj
          by_cases h : j = k
          · simp [h]
          · simp [h]
        · intro j hj
          by_cases h : j = k
          · simp [h]
          · simp [h]
            exact HG.out j (by omega)
      case measure => simp [intOf]; omega
    · obtain rfl : k = n := by omega
      have HW0 := Lib.hid (HW.out.congr (g := fun j => .int .u8 ((r j % 10 : Nat) : Int)) (fun j hj => by simp only [HG.out j hj]))
      clear HW HG
      go_wp2
      go_loopw [5, 6] (fun sr si wr => ∃ (i q : Nat) (g : Nat → Nat), i ≤ 64 ∧ si = .int .i64 i ∧ sr = .int .u64 q ∧ q < 2 ^ i ∧ (∀ j, g j < 10) ∧ wr.rowIs w.heap.size 5 k (fun j => .int .u8 (g j)) ∧ q * 10 ^ k + V g 0 k = V (fun j => r j % 10) 0 k * 2 ^ i ∧ Below w.heap.size w wr) (fun _ si _ => 64 - (intOf si).toNat)
      case atStart => exact ⟨0, 0, fun j => r j % 10, by omega, rfl, rfl, by decide, fun j => Nat.mod_lt _ (by omega), HW0.out, by simp, HB.out⟩
      case round =>
        clear HW0 HB hlt hk
        obtain ⟨i, q, g, hi, rfl, rfl, hq, hg, hrow, hV, hb⟩ := hrel
        have HG := Lib.hid hg
        have HW := Lib.hid hrow
        have HV := Lib.hid hV
        have HB := Lib.hid hb
        clear hg hrow hV hb
        by_cases hlt : i < 64
        · have hq63 : q < 9223372036854775808 := Nat.lt_of_lt_of_le hq (Nat.pow_le_pow_right (n := 2) (i := i) (j := 63) (by omega) (by omega))
          have HQ := Lib.hid hq
          clear hq
          go_wp2
          go_loopw [7, 8] (fun sc sj wr => ∃ (m c : Nat) (h : Nat → Nat), m ≤ k ∧ sj = .int .i64 ((m : Int) - 1) ∧ sc = .int .u8 c ∧ c ≤ 1 ∧ (∀ j, h j < 10) ∧ (∀ j, j < m → h j = g j) ∧ V h m (k - m) + c * 10 ^ (k - m) = 2 * V g m (k - m) ∧ wr.rowIs w.heap.size 5 k (fun j => .int .u8 (h j)) ∧ Below w.heap.size w wr) (fun _ sj _ => (intOf sj + 1).toNat)
          case atStart => exact ⟨k, 0, g, Nat.le_refl _, rfl, rfl, by omega, HG.out, fun j _ => rfl, by rw [Nat.sub_self]; rfl, HW.out, HB.out⟩
          case round =>
            clear HW HB
            obtain ⟨m, c, h, hm, rfl, rfl, hc, hh, hsame, hVi, hrow, hb⟩ := hrel
            have HH := Lib.hid hh
            have HS := Lib.hid hsame
            have HVi := Lib.hid hVi
            have HW := Lib.hid hrow
            have HB := Lib.hid hb
            clear hh hsame hVi hrow hb
            by_cases hm0 : 0 < m
            · obtain ⟨m, rfl⟩ : ∃ m', m = m' + 1 := ⟨m - 1, by omega⟩
              have hc2 := HW.out.cell (i := m) (by omega)
              have hf2 := HW.out.frozen m
              have hd := HH.out m
              have HI := Lib.hid (inner_step g h k m c (by omega) (HS.out m (by omega)) HVi.out)
              go_wp2
              refine ⟨⟨m, (h m * 2 + c) / 10, fun j => if j = m then (h m * 2 + c) % 10 else h j, by omega, rfl, by go_num, by omega, ?_, ?_, HI.out, (HW.out.set m _).congr ?_, HB.out.setCell (Nat.le_refl _) _⟩, ?_⟩
              · intro j
                show (if j = m then (h m * 2 + c) % 10 else h j) < 10
                split
                · omega
                · exact HH.out j
              · intro j hj
                show (if j = m then (h m * 2 + c) % 10 else h j) = g j
                rw [if_neg (by omega)]
                exact HS.out j (by omega)
              · intro j hj
                by_cases hjm : j = m
                · simp [hjm]
                · simp [hjm]
              · simp [intOf]
            · obtain rfl : m = 0 := by omega
              have hor := or_carry q c hq63 hc
              have HO := Lib.hid (outer_step q c (10 ^ k) (V g 0 k) (V h 0 k) (V (fun j => r j % 10) 0 k) (2 ^ i) HV.out (by have := HVi.out; simpa using this))
              have HP : Hid (2 * q + c < 2 ^ (i + 1)) := by
                show _ < _
                have := HQ.out
                rw [Nat.pow_succ]
                omega
              go_wp2
              refine ⟨⟨i + 1, 2 * q + c, h, by omega, by go_num, by go_num, HP.out, HH.out, HW.out, ?_, HB.out⟩, ?_⟩
              · rw [Nat.pow_succ]; exact HO.out
              · simp [intOf]; omega
        · obtain rfl : i = 64 := by omega
          have he := model_end _ g k q HG.out HV.out
          go_wp2
          go_ret
          exact ⟨by rw [he]; rfl, HB.out⟩
end Go.Proofs.YbulkbcbwDoor
