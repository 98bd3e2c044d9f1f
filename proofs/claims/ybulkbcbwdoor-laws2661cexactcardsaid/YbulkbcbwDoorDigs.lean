/-
  OWN TEXT. zzs2661cdigits (6) by a contract.
-/
import Derived.Test.YbulkbcbwDoorFrac
import Derived.Deep.OwnRows
import Derived.Lib.ItoaMem
namespace Go.Proofs.YbulkbcbwDoor
open Go.ChangeShapes Go.WideShapes Go.ChangeAt Go.RowKit
theorem info5 : (Ybad.prog.info? 5).map (fun i => (i.zero, i.size, i.bytes)) = some (some (.int .u8 0), 1, 1) := by kernel_rfl
/-- The raw bytes, as they lie. -/
def Raws (w : World) (ra : Option Addr) (n : Nat) (r : Nat → Nat) : Prop := ∀ j, j < n → ∃ b o, ra = some ⟨b, o, none⟩ ∧ w.cell? ⟨b, o + j, none⟩ = some (.int .u8 (r j)) ∧ r j < 256
theorem Raws.below {w w' : World} {ra : Option Addr} {n : Nat} {r : Nat → Nat} (h : Raws w ra n r) (hb : Below w.heap.size w w') : Raws w' ra n r := fun j hj => by
  obtain ⟨b, o, e, hc, hl⟩ := h j hj
  exact ⟨b, o, e, (hb.cell (block_lt_of_cell hc)).trans hc, hl⟩
/-- The digits' bytes. -/
def digs (r : Nat → Nat) (n : Nat) : List UInt8 := (List.range n).map fun j => UInt8.ofNat (48 + r j % 10)
theorem digs_at (r : Nat → Nat) (n j : Nat) (h : j < (digs r n).length) : (digs r n)[j].toNat = 48 + r j % 10 := by
  simp only [digs, List.getElem_map, List.getElem_range]
  rw [UInt8.toNat_ofNat_of_lt' (by show 48 + r j % 10 < 256; omega)]
theorem digs_len (r : Nat → Nat) (n : Nat) : (digs r n).length = n := by simp [digs]
set_option maxHeartbeats 1000000 in
theorem digits_of (ra : Option Addr) (n rc : Nat) (r : Nat → Nat) (w : World) (hn : n ≤ 1024) (hr : Raws w ra n r) :
    Calls Ybad.prog 6 #[.slice ra n rc] w fun e w' => e = .returned (.string ⟨(digs r n).toArray⟩) ∧ Below w.heap.size w w' := by
  have hmk := run_make_row' (P := Ybad.prog) 22 5 (.int .u8 0) 1 Ybad.underlying22 info5 rfl .i64 .i64 n (by omega) (by omega)
  have HR := Lib.hid hr
  clear hr
  go_enter Ybad.func6, Ybad.ntmps6
  go_wp2
  go_loopw [4] (fun si wr => ∃ k : Nat, k ≤ n ∧ si = .int .i64 k ∧ Below w.heap.size w wr ∧ ∃ g : Nat → Nat, wr.rowIs w.heap.size 5 n (fun j => .int .u8 (g j)) ∧ ∀ j, j < k → g j = 48 + r j % 10) (fun si _ => n - (intOf si).toNat)
  case atStart => exact ⟨0, Nat.zero_le _, rfl, (Below.refl _ w).alloc (Nat.le_refl _) _, fun _ => 0, World.rowIs_made w _ n 5, fun j hj => absurd hj (by omega)⟩
  case round =>
    obtain ⟨k, hk, rfl, hb, g, hrow, hg⟩ := hrel
    have HB := Lib.hid hb
    have HW := Lib.hid hrow
    have HG := Lib.hid hg
    clear hb hrow hg hmk
    by_cases hlt : k < n
    · obtain ⟨b, o, rfl, hc, hl⟩ := HR.out k hlt
      have hc' : wr.cell? ⟨b, o + k, none⟩ = some (.int .u8 (r k)) := (HB.out.cell (block_lt_of_cell hc)).trans hc
      have hc2 := HW.out.cell hlt
      have hf2 := HW.out.frozen k
      clear hc
      go_wp2
      go_roundw
      case rel =>
        refine ⟨k + 1, by omega, by go_num, HB.out.setCell (Nat.le_refl _) _, fun j => if j = k then 48 + r k % 10 else g j, (HW.out.set k _).congr ?_, ?_⟩
        · intro j hj
          by_cases h : j = k
          · simp [h]
          · simp [h]
        · intro j hj
          by_cases h : j = k
          · simp [h]
          · simp [h]
            exact HG.out j (by omega)
      case measure => simp [intOf]; omega
    · obtain rfl : k = n := by omega
      have hcv : (convert 22 9 (.slice (some ⟨w.heap.size, 0, none⟩) k k)).run Ybad.prog wr = .ok (.string ⟨(digs r k).toArray⟩) wr := by
        have h := run_convert_bytes_back (P := Ybad.prog) wr 22 9 5 ⟨w.heap.size, 0, none⟩ k (digs r k) Ybad.underlying22 Ybad.underlying5 Ybad.underlying9 (fun j hj => by
          have hj' : j < k := by rw [digs_len] at hj; exact hj
          rw [digs_at r k j hj, ← HG.out j hj', Lib.add_plain, Nat.zero_add]
          exact HW.out.cell hj')
        rw [digs_len] at h
        exact h
      go_wp2
      go_ret
      exact ⟨rfl, HB.out⟩
end Go.Proofs.YbulkbcbwDoor
