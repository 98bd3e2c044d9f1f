/-
  OWN TEXT. zzs2660aplaces (5) by a contract.
-/
import Derived.Test.YbulkbcbiFmtCheckFn
import Derived.OwnWalk
import Derived.Deep.DeepAppendRoom
namespace Go.Proofs.YbulkbcbiFmt
open Go.ChangeShapes Go.WideShapes Go.ChangeAt Go.RowKit
theorem info3 : (Ybaf.prog.info? 3).map (fun i => (i.zero, i.size, i.bytes)) = some (some (.int .i64 0), 1, 8) := by kernel_rfl
/-- The raw bytes, as they lie. -/
def Raws (w : World) (ra : Option Addr) (n : Nat) (r : Nat → Nat) : Prop := ∀ j, j < n → ∃ b o, ra = some ⟨b, o, none⟩ ∧ w.cell? ⟨b, o + j, none⟩ = some (.int .u8 (r j)) ∧ r j < 256
/-- The places that come of them. -/
def placesOf (M : Nat) (r : Nat → Nat) (n : Nat) : List Value := (List.range n).map fun j => .int .i64 ((r j % M : Nat) : Int)
theorem places_more (M : Nat) (r : Nat → Nat) (n : Nat) : placesOf M r (n + 1) = placesOf M r n ++ [.int .i64 ((r n % M : Nat) : Int)] := by
  simp [placesOf, List.range_succ]
theorem one_new (w : World) (v : Value) (e : TypeId) : ∀ (j : Nat) u, [v][j]? = some u → (w.alloc (.cells #[v] e)).cell? ((⟨w.heap.size, 0, none⟩ : Addr).add j) = some u := by
  intro t u ht
  match t, ht with
  | 0, ht => simp at ht; subst ht; simp [Addr.add]
theorem one_cell (n : Int) : ∀ u ∈ [Value.int .i64 n], u.oneCell' = true := by
  intro u hu; simp at hu; subst hu; rfl
set_option maxHeartbeats 400000 in
theorem places_none (fa ra : Option Addr) (fc n rc : Nat) (w : World) :
    Calls Ybaf.prog 5 #[.slice fa 0 fc, .slice ra n rc] w fun e w' => e = .returned (.slice none 0 0) ∧ w = w' := by
  go_enter Ybaf.func5, Ybaf.ntmps5
  go_wp2
  go_ret
  exact ⟨rfl, rfl⟩
set_option maxHeartbeats 1000000 in
theorem places_some (fa ra : Option Addr) (m fc n rc M : Nat) (r : Nat → Nat) (w : World) (hm : 0 < m) (hn : n ≤ 1024) (hM : (6 < m ∧ M = 6) ∨ (¬ 6 < m ∧ M = m)) (hr : Raws w ra n r) :
    Calls Ybaf.prog 5 #[.slice fa m fc, .slice ra n rc] w fun e w' =>
      e = .returned (.slice (some ⟨w.heap.size, 0, none⟩) n n) ∧ w'.ownsRow w.heap.size 3 1 (.slice (some ⟨w.heap.size, 0, none⟩) n n) n (placesOf M r n) ∧ Below w.heap.size w w' := by
  obtain ⟨i0, hi, hz0, hz1, hz2⟩ := info_parts info3
  have HR := Lib.hid hr
  clear hr
  rcases hM with ⟨h6, hM⟩ | ⟨h6, hM⟩
  · have HM := Lib.hid hM
    clear hM
    go_enter Ybaf.func5, Ybaf.ntmps5
    go_wp2_with (at_make; refine wpList_make_own _ rfl _ _ 24 rfl w.heap.size 3 i0 (.int .i64 0) 1 Ybaf.underlying24 hi hz0 hz1 _ _ _ n rfl rfl (by omega) ?b2 ?b3 (Nat.le_refl _) ?_)
    case b2 => rw [hz2]; omega
    case b3 => unfold maxLen; omega
    intro w0 hown0 hgrow0
    go_wp2
    go_loopw [6, 20] (fun out si wr => ∃ k : Nat, k ≤ n ∧ si = .int .i64 k ∧ out = .slice (some ⟨w.heap.size, 0, none⟩) k n ∧ wr.ownsRow w.heap.size 3 1 (.slice (some ⟨w.heap.size, 0, none⟩) k n) k (placesOf M r k) ∧ Below w.heap.size w wr) (fun _ si _ => n - (intOf si).toNat)
    case atStart => exact ⟨0, Nat.zero_le _, rfl, rfl, hown0, (Below.refl _ _).grown hgrow0 (Nat.le_refl _) (fun k h => by cases h)⟩
    case round =>
      obtain ⟨k, hk, rfl, rfl, hown, hnx⟩ := hrel
      have HO := Lib.hid hown
      have HB := Lib.hid hnx
      clear hown hnx
      by_cases hlt : k < n
      · obtain ⟨b, o, rfl, hc, hb⟩ := HR.out k hlt
        have hc' : wr.cell? ⟨b, o + k, none⟩ = some (.int .u8 (r k)) := (HB.out.cell (block_lt_of_cell hc)).trans hc
        clear hc
        go_wp2_with (at_builtin; refine wpList_append_own_spare _ rfl (.tmp 24) (.tmp 29) 24 rfl w.heap.size 3 i0 1 Ybaf.underlying24 hi hz1 w.heap.size k n _ rfl (HO.out.alloc _) ⟨wr.heap.size, 0, none⟩ 1 1 [.int .i64 ((r k : Int) % 6)] rfl rfl (one_new _ _ _) (one_cell _) (by omega) ?_; intro w1 hown1 hgrow1)
        go_roundw
        case rel =>
          refine ⟨k + 1, by omega, by go_num, rfl, ?_, (HB.out.alloc HB.out.size _).grown hgrow1 (by simp; have := HB.out.size; omega) (fun k hk => by cases hk; exact Nat.le_refl _)⟩
          rw [places_more, HM.out]
          rw [HM.out] at hown1
          exact hown1
        case measure => simp [intOf]; omega
      · obtain rfl : k = n := by omega
        go_wp2
        go_ret
        exact ⟨rfl, HO.out, HB.out⟩
  · have HM := Lib.hid hM
    clear hM
    go_enter Ybaf.func5, Ybaf.ntmps5
    go_wp2_with (at_make; refine wpList_make_own _ rfl _ _ 24 rfl w.heap.size 3 i0 (.int .i64 0) 1 Ybaf.underlying24 hi hz0 hz1 _ _ _ n rfl rfl (by omega) ?b2 ?b3 (Nat.le_refl _) ?_)
    case b2 => rw [hz2]; omega
    case b3 => unfold maxLen; omega
    intro w0 hown0 hgrow0
    go_wp2
    go_loopw [6, 20] (fun out si wr => ∃ k : Nat, k ≤ n ∧ si = .int .i64 k ∧ out = .slice (some ⟨w.heap.size, 0, none⟩) k n ∧ wr.ownsRow w.heap.size 3 1 (.slice (some ⟨w.heap.size, 0, none⟩) k n) k (placesOf M r k) ∧ Below w.heap.size w wr) (fun _ si _ => n - (intOf si).toNat)
    case atStart => exact ⟨0, Nat.zero_le _, rfl, rfl, hown0, (Below.refl _ _).grown hgrow0 (Nat.le_refl _) (fun k h => by cases h)⟩
    case round =>
      obtain ⟨k, hk, rfl, rfl, hown, hnx⟩ := hrel
      have HO := Lib.hid hown
      have HB := Lib.hid hnx
      clear hown hnx
      by_cases hlt : k < n
      · obtain ⟨b, o, rfl, hc, hb⟩ := HR.out k hlt
        have hc' : wr.cell? ⟨b, o + k, none⟩ = some (.int .u8 (r k)) := (HB.out.cell (block_lt_of_cell hc)).trans hc
        clear hc
        go_wp2_with (at_builtin; refine wpList_append_own_spare _ rfl (.tmp 24) (.tmp 29) 24 rfl w.heap.size 3 i0 1 Ybaf.underlying24 hi hz1 w.heap.size k n _ rfl (HO.out.alloc _) ⟨wr.heap.size, 0, none⟩ 1 1 [.int .i64 ((r k : Int) % m)] rfl rfl (one_new _ _ _) (one_cell _) (by omega) ?_; intro w1 hown1 hgrow1)
        go_roundw
        case rel =>
          refine ⟨k + 1, by omega, by go_num, rfl, ?_, (HB.out.alloc HB.out.size _).grown hgrow1 (by simp; have := HB.out.size; omega) (fun k hk => by cases hk; exact Nat.le_refl _)⟩
          rw [places_more, HM.out]
          rw [HM.out] at hown1
          exact hown1
        case measure => simp [intOf]; omega
      · obtain rfl : k = n := by omega
        go_wp2
        go_ret
        exact ⟨rfl, HO.out, HB.out⟩
end Go.Proofs.YbulkbcbiFmt
