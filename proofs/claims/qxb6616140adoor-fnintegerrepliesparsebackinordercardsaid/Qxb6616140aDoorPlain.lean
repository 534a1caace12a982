/-
  The plain law: what a decimal numeral is, byte for byte; it parses back as its number.
-/
import Derived.Lib.ParseIntB
import Derived.Lib.ItoaNum
import Derived.Lib.ItoaMem
import Derived.Lib.ItoaLen
namespace Go.Proofs.Qxb6616140aDoor.Rs
open Go.Lib

theorem decDigits_small {u : Nat} (h : u < 10) : decDigits u = [UInt8.ofNat (48 + u)] := by rw [decDigits, dif_pos h]
theorem decDigits_big {u : Nat} (h : ¬ u < 10) : decDigits u = decDigits (u / 10) ++ [UInt8.ofNat (48 + u % 10)] := by rw [decDigits, dif_neg h]
theorem digit_toNat {d : Nat} (h : d < 10) : (UInt8.ofNat (48 + d)).toNat = 48 + d := by
  rw [UInt8.toNat_ofNat']
  omega
theorem decDigits_ne (u : Nat) : decDigits u ≠ [] := by
  by_cases h : u < 10
  · rw [decDigits_small h]; simp
  · rw [decDigits_big h]; simp
theorem decDigits_digit (u : Nat) : ∀ c ∈ decDigits u, 48 ≤ c.toNat ∧ c.toNat ≤ 57 := by
  induction u using Nat.strongRecOn with
  | _ u ih =>
    by_cases h : u < 10
    · rw [decDigits_small h]
      intro c hc
      simp only [List.mem_singleton] at hc
      rw [hc, digit_toNat h]
      omega
    · rw [decDigits_big h]
      intro c hc
      rw [List.mem_append, List.mem_singleton] at hc
      rcases hc with hc | rfl
      · exact ih (u / 10) (by omega) c hc
      · rw [digit_toNat (by omega)]
        omega
/-- the first digit is no zero but of zero. -/
theorem decDigits_head {u : Nat} (hu : 1 ≤ u) : ∃ c r, decDigits u = c :: r ∧ c.toNat ≠ 48 := by
  induction u using Nat.strongRecOn with
  | _ u ih =>
    by_cases h : u < 10
    · exact ⟨_, [], decDigits_small h, by rw [digit_toNat h]; omega⟩
    · obtain ⟨c, r, e, hc⟩ := ih (u / 10) (by omega) (by omega)
      exact ⟨c, r ++ [UInt8.ofNat (48 + u % 10)], by rw [decDigits_big h, e]; rfl, hc⟩

theorem parse_digits (M : Nat) (hM : M ≤ 18446744073709551615) (u : Nat) : ∀ r, u ≤ M → parseUintM M 0 (decDigits u ++ r) = parseUintM M u r := by
  induction u using Nat.strongRecOn with
  | _ u ih =>
    intro r hu
    by_cases h : u < 10
    · rw [decDigits_small h]
      show parseUintM M 0 (UInt8.ofNat (48 + u) :: r) = _
      rw [parseUintM, digit_toNat h, if_pos (by omega), if_neg (by omega), if_neg (by omega)]
      congr 1
      omega
    · rw [decDigits_big h, List.append_assoc, ih (u / 10) (by omega) _ (by omega)]
      show parseUintM M (u / 10) (UInt8.ofNat (48 + u % 10) :: r) = _
      rw [parseUintM, digit_toNat (by omega), if_pos (by omega), if_neg (by omega), if_neg (by omega)]
      congr 1
      omega
theorem parseUint_digits (u : Nat) (hu : u ≤ 18446744073709551615) : parseUintB 64 (decDigits u) = .ok u := by
  rw [parseUintB, if_neg (decDigits_ne u)]
  have := parse_digits (2 ^ 64 - 1) (by decide) u [] (by omega)
  rw [List.append_nil] at this
  rw [this, parseUintM]
theorem parse_itoa (i : Int) (h0 : -9223372036854775808 ≤ i) (h1 : i ≤ 9223372036854775807) : parseIntB 64 (itoa i) = .ok i := by
  by_cases hn : i < 0
  · rw [itoa, if_pos hn]
    simp only [parseIntB]
    have h45 : (45 : UInt8).toNat = 45 := rfl
    rw [if_pos (Or.inr h45), parseUint_digits _ (by omega)]
    simp only [h45]
    rw [if_neg (by simp), if_neg (by simp; omega)]
    simp
    omega
  · rw [itoa, if_neg hn]
    have hd := decDigits_digit i.toNat
    have hp := parseUint_digits i.toNat (by omega)
    cases e : decDigits i.toNat with
    | nil => exact absurd e (decDigits_ne _)
    | cons c r =>
      rw [e] at hd hp
      have hc := hd c (by simp)
      simp only [parseIntB]
      rw [if_neg (by omega), hp]
      simp only
      rw [if_neg (by omega), if_neg (by omega), if_neg (by omega)]
      congr 1
      omega

end Go.Proofs.Qxb6616140aDoor.Rs
