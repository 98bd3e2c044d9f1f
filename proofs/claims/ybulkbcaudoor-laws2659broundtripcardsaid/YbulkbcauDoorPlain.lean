/-
  OWN TEXT. The plain law: what FormatUint writes ParseUint reads, zeros ahead of it or not; the last underscore of the joined name.
-/
import Derived.Test.YbulkbcauDoorModelFn
import Derived.Test.YbulkbcauDoorFmt
namespace Go.Proofs.YbulkbcauDoor
open Go.ChangeShapes Go.WideShapes Go.ChangeAt Go.RowKit
theorem dig_nat (d : Nat) (h : d < 10) : (UInt8.ofNat (48 + d)).toNat = 48 + d := by
  rw [UInt8.toNat_ofNat_of_lt' (by show 48 + d < 256; omega)]
theorem pars_dig (v d : Nat) (r : List UInt8) (h : d < 10) (hv : v * 10 + d ≤ 18446744073709551615) : Pars (UInt8.ofNat (48 + d) :: r) v = Pars r (v * 10 + d) := by
  have e := dig_nat d h
  have := (pars_step (UInt8.ofNat (48 + d)) r v (by omega) (by omega) (by omega)).1
  rw [this, e, show 48 + d - 48 = d by omega]
theorem pars_dec (u : Nat) : ∀ r, u ≤ 18446744073709551615 → Pars (Lib.decDigits u ++ r) 0 = Pars r u := by
  induction u using Nat.strongRecOn with
  | _ u ih =>
    intro r hu
    rw [Lib.decDigits]
    by_cases h : u < 10
    · rw [dif_pos h, List.singleton_append, pars_dig 0 u r h (by omega)]
      congr 1
      omega
    · rw [dif_neg h, List.append_assoc, ih (u / 10) (by omega) _ (by omega), List.singleton_append, pars_dig _ _ r (by omega) (by omega)]
      congr 1
      omega
theorem pars_zeros (z : Nat) (r : List UInt8) : Pars (Lib.repeatL [48] z ++ r) 0 = Pars r 0 := by
  induction z with
  | zero => rfl
  | succ z ih =>
    show Pars (48 :: (Lib.repeatL [48] z ++ r)) 0 = _
    have := pars_dig 0 0 (Lib.repeatL [48] z ++ r) (by omega) (by omega)
    simpa [ih] using this
theorem dec_digits (u : Nat) : ∀ c ∈ Lib.decDigits u, 48 ≤ c.toNat ∧ c.toNat ≤ 57 := by
  induction u using Nat.strongRecOn with
  | _ u ih =>
    intro c hc
    rw [Lib.decDigits] at hc
    by_cases h : u < 10
    · rw [dif_pos h, List.mem_singleton] at hc
      subst hc
      rw [dig_nat u h]; omega
    · rw [dif_neg h, List.mem_append, List.mem_singleton] at hc
      rcases hc with hc | hc
      · exact ih _ (by omega) c hc
      · subst hc
        rw [dig_nat _ (by omega)]; omega
theorem zeros_digits (z : Nat) : ∀ c ∈ Lib.repeatL [48] z, 48 ≤ c.toNat ∧ c.toNat ≤ 57 := by
  induction z with
  | zero => intro c hc; cases hc
  | succ z ih =>
    intro c hc
    rcases List.mem_cons.1 (show c ∈ 48 :: Lib.repeatL [48] z from hc) with rfl | hc
    · decide
    · exact ih c hc
/-- What is behind the underscore. -/
def tailOf (z n : Nat) : List UInt8 := Lib.repeatL [48] z ++ Lib.decDigits n
theorem tail_digits (z n : Nat) : ∀ c ∈ tailOf z n, 48 ≤ c.toNat ∧ c.toNat ≤ 57 := by
  intro c hc
  rcases List.mem_append.1 hc with h | h
  · exact zeros_digits z c h
  · exact dec_digits n c h
theorem tail_ne (z n : Nat) : tailOf z n ≠ [] := by
  intro e
  have := congrArg List.length e
  unfold tailOf at this
  rw [List.length_append, Lib.decDigits_length] at this
  have h0 : Lib.nDigits n ≠ 0 := by
    intro h
    have h1 := Lib.decDigits_length n
    rw [h, Lib.decDigits] at h1
    split at h1 <;> simp at h1
  simp at this
  omega
theorem tail_parse (z n : Nat) (h : n ≤ 18446744073709551615) : Lib.parseUintB 64 (tailOf z n) = .ok n := by
  rw [parse_eq _ (tail_ne z n)]
  unfold tailOf
  rw [pars_zeros, ← List.append_nil (Lib.decDigits n), pars_dec n [] h]
  exact pars_done n
theorem at_list (p : ByteArray) (j : Nat) : p.data[j]! = p.data.toList[j]! := by
  by_cases h : j < p.data.size
  · rw [getElem!_pos p.data j h, getElem!_pos p.data.toList j (by simpa using h)]; simp
  · rw [getElem!_neg p.data j h, getElem!_neg p.data.toList j (by simpa using h)]
theorem last_at (p nm : ByteArray) (tl : List UInt8) (hp : p.data.toList = nm.data.toList ++ 95 :: tl) (ht : ∀ c ∈ tl, 48 ≤ c.toNat ∧ c.toNat ≤ 57) : Lib.lastIndexByte p 95 = nm.size := by
  have hsz : p.size = nm.size + 1 + tl.length := by
    have h : p.data.toList.length = (nm.data.toList ++ 95 :: tl).length := congrArg List.length hp
    rw [List.length_append, List.length_cons] at h
    have e1 : p.data.toList.length = p.size := rfl
    have e2 : nm.data.toList.length = nm.size := rfl
    omega
  have hmid : ((p.data[nm.size]!).toNat : Int) = 95 := by
    rw [at_list, hp]
    have : nm.size = nm.data.toList.length := rfl
    rw [this]
    simp
  have hend : ∀ j, nm.size < j → j < p.size → ((p.data[j]!).toNat : Int) ≠ 95 := by
    intro j h1 h2
    have hj : p.data[j]! ∈ tl := by
      rw [at_list, hp]
      have h3 : nm.data.toList.length ≤ j := by show nm.size ≤ j; omega
      have h4 : nm.data.toList.length = nm.size := rfl
      rw [getElem!_pos _ _ (by rw [List.length_append, List.length_cons]; omega), List.getElem_append_right h3]
      obtain ⟨k, hk⟩ : ∃ k, j - nm.data.toList.length = k + 1 := ⟨j - nm.size - 1, by rw [h4]; omega⟩
      simp only [hk, List.getElem_cons_succ]
      exact List.getElem_mem _
    have := ht _ hj
    omega
  rcases Lib.lastIdx_spec p 95 p.size with ⟨_, hno⟩ | ⟨i, hi, he, hc, hno⟩
  · exact absurd hmid (hno nm.size (by omega))
  · show Lib.lastIdx p 95 p.size = _
    rw [he]
    by_cases h1 : i < nm.size
    · exact absurd hmid (hno nm.size h1 (by omega))
    · by_cases h2 : nm.size < i
      · exact absurd hc (hend i h2 hi)
      · omega
theorem ba_ext (a b : ByteArray) (h : a.data.toList = b.data.toList) : a = b := by
  obtain ⟨⟨x⟩⟩ := a
  obtain ⟨⟨y⟩⟩ := b
  simp at h
  rw [h]
theorem head_of (p nm : ByteArray) (tl : List UInt8) (hp : p.data.toList = nm.data.toList ++ 95 :: tl) : p.extract 0 nm.size = nm := by
  apply ba_ext
  have h4 : nm.data.toList.length = nm.size := rfl
  simp [hp]
theorem tail_of (p nm : ByteArray) (tl : List UInt8) (hp : p.data.toList = nm.data.toList ++ 95 :: tl) : (p.extract (nm.size + 1) p.size).data.toList = tl := by
  have h4 : nm.data.toList.length = nm.size := rfl
  have hsz : p.size = nm.size + 1 + tl.length := by
    have h : p.data.toList.length = (nm.data.toList ++ 95 :: tl).length := congrArg List.length hp
    rw [List.length_append, List.length_cons] at h
    have e1 : p.data.toList.length = p.size := rfl
    have e2 : nm.data.toList.length = nm.size := rfl
    omega
  simp only [ByteArray.data_extract, Array.toList_extract, List.extract_eq_take_drop, hp]
  rw [show nm.size + 1 = nm.data.toList.length + 1 from rfl, List.drop_append, List.take_of_length_le]
  · simp
  · simp [hsz]
end Go.Proofs.YbulkbcauDoor
