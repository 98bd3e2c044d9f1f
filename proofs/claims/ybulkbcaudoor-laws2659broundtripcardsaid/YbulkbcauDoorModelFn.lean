/-
  OWN TEXT. The model (6) by contracts, and the digits as ParseUint parses them.
-/
import Derived.Test.YbulkbcauDoorRes
namespace Go.Proofs.YbulkbcauDoor
open Go.ChangeShapes Go.WideShapes Go.ChangeAt Go.RowKit
theorem byte_at (s : ByteArray) (k : Nat) (h : k < s.size) : s.data[k]! = s[k] := by
  rw [getElem!_pos s.data k h]
  rfl
theorem last_hit (s : ByteArray) (k : Nat) (h : k < s.size) (hc : (s[k].toNat : Int) = 95) : Lib.lastIdx s 95 (k + 1) = k := Lib.lastIdx_hit s 95 k (by rw [byte_at s k h]; exact hc)
theorem last_miss (s : ByteArray) (k : Nat) (h : k < s.size) (hc : ¬ (s[k].toNat : Int) = 95) : Lib.lastIdx s 95 (k + 1) = Lib.lastIdx s 95 k := Lib.lastIdx_miss s 95 k (by rw [byte_at s k h]; exact hc)
set_option maxHeartbeats 400000 in
theorem model_low (s : ByteArray) (hs : s.size ≤ 2000) (w : World) (h : Lib.lastIndexByte s 95 ≤ 0) :
    Calls Ybad.prog 6 #[.string s] w fun e w' => e = .returned (.tuple #[.string ⟨#[]⟩, .bool false]) ∧ w = w' := by
  have H : Hid (Lib.lastIndexByte s 95 ≤ 0) := h
  clear h
  go_enter Ybad.func6, Ybad.ntmps6
  go_wp2
  go_loop [4, 5] (fun a b => ∃ k : Nat, k ≤ s.size ∧ b = .int .i64 k ∧ a = .int .i64 (Lib.lastIdx s 95 k)) (fun _ b => s.size - (intOf b).toNat)
  case atStart => exact ⟨0, Nat.zero_le _, rfl, rfl⟩
  case round =>
    obtain ⟨k, hk, rfl, rfl⟩ := hrel
    by_cases hlt : k < s.size
    · by_cases hc : (s[k].toNat : Int) = 95
      · have HL : Hid (Lib.lastIdx s 95 (k + 1) = k) := last_hit s k hlt hc
        have hb : ((s[k].toNat : Int) == 95) = true := by simpa using hc
        clear hc
        go_wp2
        go_round
        case rel => exact ⟨k + 1, by omega, by go_num, by rw [HL.out]⟩
        case measure => simp [intOf]; omega
      · have HL : Hid (Lib.lastIdx s 95 (k + 1) = Lib.lastIdx s 95 k) := last_miss s k hlt hc
        have hb : ((s[k].toNat : Int) == 95) = false := by simpa using hc
        clear hc
        go_wp2
        go_round
        case rel => exact ⟨k + 1, by omega, by go_num, by rw [HL.out]⟩
        case measure => simp [intOf]; omega
    · obtain rfl : k = s.size := by omega
      have hle : Lib.lastIdx s 95 s.size ≤ 0 := H.out
      go_wp2
      go_ret2
      exact ⟨rfl, rfl⟩

/-! ### The digits, parsed as ParseUint parses them -/
def M64 : Nat := 18446744073709551615
def Pars (l : List UInt8) (v : Nat) : Lib.NumEnd Nat := Lib.parseUintM M64 v l
theorem parse_eq (l : List UInt8) (h : l ≠ []) : Lib.parseUintB 64 l = Pars l 0 := by
  unfold Lib.parseUintB Pars M64
  rw [if_neg h]
theorem parse_nil (u : Nat) : Lib.parseUintB 64 [] ≠ .ok u := by
  unfold Lib.parseUintB
  simp
theorem pars_done (v : Nat) : Pars [] v = .ok v := rfl
theorem pars_no (c : UInt8) (r : List UInt8) (v u : Nat) (h : (c.toNat : Int) < 48 ∨ 57 < (c.toNat : Int)) : Pars (c :: r) v ≠ .ok u := by
  unfold Pars Lib.parseUintM
  rw [if_neg (by omega)]
  exact fun e => by cases e
theorem pars_over (c : UInt8) (r : List UInt8) (v u : Nat) (h1 : 48 ≤ (c.toNat : Int)) (h2 : (c.toNat : Int) ≤ 57) (h : (18446744073709551615 - ((c.toNat : Int) - 48)) / 10 < (v : Int)) : Pars (c :: r) v ≠ .ok u := by
  unfold Pars Lib.parseUintM
  rw [if_pos (by omega)]
  by_cases hv : 1844674407370955162 ≤ v
  · rw [if_pos hv]; exact fun e => by cases e
  · rw [if_neg hv, if_pos (by unfold M64; omega)]; exact fun e => by cases e
theorem pars_step (c : UInt8) (r : List UInt8) (v : Nat) (h1 : 48 ≤ (c.toNat : Int)) (h2 : (c.toNat : Int) ≤ 57) (h : ¬ (18446744073709551615 - ((c.toNat : Int) - 48)) / 10 < (v : Int)) : Pars (c :: r) v = Pars r (v * 10 + (c.toNat - 48)) ∧ v * 10 + (c.toNat - 48) ≤ 18446744073709551615 := by
  refine ⟨?_, by omega⟩
  show Lib.parseUintM M64 v (c :: r) = _
  unfold Lib.parseUintM
  rw [if_pos (by omega), if_neg (by omega), if_neg (by unfold M64; omega)]
  rfl
theorem drop_at (t : ByteArray) (k : Nat) (h : k < t.size) : t.data.toList.drop k = t[k] :: t.data.toList.drop (k + 1) := by
  rw [List.drop_eq_getElem_cons (by simpa using h)]
  rfl
/-- What stands behind the last underscore is a uint64. -/
def Num (s : ByteArray) (i : Nat) : Prop := ∃ u, Lib.parseUintB 64 (s.extract (i + 1) s.size).data.toList = .ok u
theorem not_num (s : ByteArray) (i : Nat) (h : ∀ u, Lib.parseUintB 64 (s.extract (i + 1) s.size).data.toList ≠ .ok u) : ¬ Num s i := fun ⟨u, e⟩ => h u e
set_option maxHeartbeats 1000000 in
theorem model_high (s : ByteArray) (hs : s.size ≤ 2000) (w : World) (i : Nat) (hi : 0 < i) (hl : i < s.size) (h : Lib.lastIndexByte s 95 = i) :
    Calls Ybad.prog 6 #[.string s] w fun e w' => ((Num s i ∧ e = .returned (.tuple #[.string (s.extract 0 i), .bool true])) ∨ (¬ Num s i ∧ e = .returned (.tuple #[.string ⟨#[]⟩, .bool false]))) ∧ w = w' := by
  have H : Hid (Lib.lastIndexByte s 95 = i) := h
  clear h
  go_enter Ybad.func6, Ybad.ntmps6
  go_wp2
  go_loop [4, 5] (fun a b => ∃ k : Nat, k ≤ s.size ∧ b = .int .i64 k ∧ a = .int .i64 (Lib.lastIdx s 95 k)) (fun _ b => s.size - (intOf b).toNat)
  case atStart => exact ⟨0, Nat.zero_le _, rfl, rfl⟩
  case round =>
    obtain ⟨k, hk, rfl, rfl⟩ := hrel
    by_cases hlt : k < s.size
    · by_cases hc : (s[k].toNat : Int) = 95
      · have HL : Hid (Lib.lastIdx s 95 (k + 1) = k) := last_hit s k hlt hc
        have hb : ((s[k].toNat : Int) == 95) = true := by simpa using hc
        clear hc
        go_wp2
        go_round
        case rel => exact ⟨k + 1, by omega, by go_num, by rw [HL.out]⟩
        case measure => simp [intOf]; omega
      · have HL : Hid (Lib.lastIdx s 95 (k + 1) = Lib.lastIdx s 95 k) := last_miss s k hlt hc
        have hb : ((s[k].toNat : Int) == 95) = false := by simpa using hc
        clear hc
        go_wp2
        go_round
        case rel => exact ⟨k + 1, by omega, by go_num, by rw [HL.out]⟩
        case measure => simp [intOf]; omega
    · obtain rfl : k = s.size := by omega
      have hle : Lib.lastIdx s 95 s.size = i := H.out
      rw [hle]
      clear hle hk
      have hsz : (s.extract (i + 1) s.size).size = s.size - (i + 1) := by simp
      have HT : Hid ((s.extract (i + 1) s.size).size = s.size - (i + 1)) := hsz
      clear hsz
      by_cases hz : s.size = i + 1
      · have HZ : Hid (¬ Num s i) := not_num s i (by
          have : (s.extract (i + 1) s.size).data.toList = [] := by
            apply List.eq_nil_of_length_eq_zero
            have h2 := HT.out
            rw [hz] at h2 ⊢
            simp
          rw [this]; exact parse_nil)
        go_wp2
        go_ret2
        exact ⟨Or.inr ⟨HZ.out, rfl⟩, rfl⟩
      · go_wp2_with fail
        have hne : (s.extract (i + 1) s.size).data.toList ≠ [] := by
          intro e
          have := congrArg List.length e
          have h2 := HT.out
          simp at this
          omega
        have HP : Hid (Lib.parseUintB 64 (s.extract (i + 1) s.size).data.toList = Pars (s.extract (i + 1) s.size).data.toList 0) := parse_eq _ hne
        clear hne
        have hts : (s.extract (i + 1) s.size).size ≤ 2000 := by rw [HT.out]; omega
        clear HT
        have HQ : Hid (Num s i ↔ ∃ u, Lib.parseUintB 64 (s.extract (i + 1) s.size).data.toList = .ok u) := Iff.rfl
        generalize s.extract (i + 1) s.size = t at *
        go_loop [7, 8] (fun a b => ∃ k v : Nat, k ≤ t.size ∧ v ≤ 18446744073709551615 ∧ b = .int .i64 k ∧ a = .int .u64 v ∧ Pars t.data.toList 0 = Pars (t.data.toList.drop k) v) (fun _ b => t.size - (intOf b).toNat)
        case atStart => exact ⟨0, 0, Nat.zero_le _, Nat.zero_le _, rfl, rfl, rfl⟩
        case round =>
          obtain ⟨k, v, hk, hv, rfl, rfl, hrel⟩ := hrel
          have HR : Hid (Pars t.data.toList 0 = Pars (t.data.toList.drop k) v) := hrel
          clear hrel
          by_cases hlt : k < t.size
          · have HD : Hid (t.data.toList.drop k = t[k] :: t.data.toList.drop (k + 1)) := drop_at t k hlt
            by_cases h1 : (t[k].toNat : Int) < 48
            · have HN : Hid (∀ u, Lib.parseUintB 64 t.data.toList ≠ .ok u) := by
                intro u; rw [HP.out, HR.out, HD.out]; exact pars_no _ _ _ _ (Or.inl h1)
              go_wp2
              go_ret2
              exact ⟨Or.inr ⟨fun hq => (HQ.out.1 hq).elim HN.out, rfl⟩, rfl⟩
            · by_cases h2 : 57 < (t[k].toNat : Int)
              · have HN : Hid (∀ u, Lib.parseUintB 64 t.data.toList ≠ .ok u) := by
                  intro u; rw [HP.out, HR.out, HD.out]; exact pars_no _ _ _ _ (Or.inr h2)
                go_wp2
                go_ret2
                exact ⟨Or.inr ⟨fun hq => (HQ.out.1 hq).elim HN.out, rfl⟩, rfl⟩
              · by_cases h3 : (18446744073709551615 - ((t[k].toNat : Int) - 48)) / 10 < (v : Int)
                · have HN : Hid (∀ u, Lib.parseUintB 64 t.data.toList ≠ .ok u) := by
                    intro u; rw [HP.out, HR.out, HD.out]; exact pars_over _ _ _ _ (by omega) (by omega) h3
                  go_wp2
                  go_ret2
                  exact ⟨Or.inr ⟨fun hq => (HQ.out.1 hq).elim HN.out, rfl⟩, rfl⟩
                · have HS : Hid _ := pars_step t[k] (t.data.toList.drop (k + 1)) v (by omega) (by omega) h3
                  have hs2 := HS.out.2
                  go_wp2
                  go_round
                  case rel =>
                    refine ⟨k + 1, v * 10 + (t[k].toNat - 48), by omega, hs2, by go_num, ?_, ?_⟩
                    · go_num
                    · rw [HR.out, HD.out]; exact HS.out.1
                  case measure => simp [intOf]; omega
          · obtain rfl : k = t.size := by omega
            have HN : Hid (Lib.parseUintB 64 t.data.toList = .ok v) := by
              show _ = _
              rw [HP.out, HR.out, List.drop_of_length_le (by simp)]
              exact pars_done v
            go_wp2
            go_ret2
            exact ⟨Or.inl ⟨HQ.out.2 ⟨v, HN.out⟩, rfl⟩, rfl⟩
end Go.Proofs.YbulkbcauDoor
