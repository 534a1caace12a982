/-
  What the three answers of ZZcheckEntries are to one another.
-/
import Derived.Test.Qxb6616790aDoorCheck
namespace Go.Proofs.Qxb6616790aDoor.Ce

theorem empty_of {xs : List ByteArray} (h : 0 < xs.length) : xs.isEmpty = false := by cases xs <;> simp_all
theorem reasons_nil {xs : List ByteArray} (h : someText xs = false) : reasons xs = [] := by
  rw [someText_eq] at h
  cases hr : reasons xs
  · rfl
  · rw [hr] at h; cases h
theorem reasons_ne {xs : List ByteArray} (h : someText xs = true) : reasons xs ≠ [] := by
  intro e
  rw [someText_eq, e] at h
  cases h
theorem joined_nil : joined [] = ⟨#[]⟩ := rfl

theorem tail_cases {xs ys : List ByteArray} {fa fb fab : Bool} {ta tb tab : ByteArray} (h : fa = failOf xs ∧ fb = failOf ys ∧ fab = failOf (xs ++ ys) ∧ ta = textOf xs ∧ tb = textOf ys ∧ tab = textOf (xs ++ ys)) :
    (xs.length = 0 ∧ ys.length = 0 ∧ fab = true ∧ tab = ⟨#[109, 105, 115, 115, 105, 110, 103, 32, 111, 114, 32, 101, 109, 112, 116, 121]⟩)
    ∨ (xs.length = 0 ∧ 0 < ys.length ∧ someText xs = false ∧ someText ys = fb ∧ fab = fb ∧ tab = tb)
    ∨ (0 < xs.length ∧ ys.length = 0 ∧ someText xs = fa ∧ someText ys = false ∧ fab = fa ∧ tab = ta)
    ∨ (0 < xs.length ∧ 0 < ys.length ∧ someText xs = fa ∧ someText ys = fb ∧ fab = (fa || fb) ∧ tab = if fa then (if fb then ta ++ ⟨#[59, 32]⟩ ++ tb else ta) else if fb then tb else ⟨#[]⟩) := by
  obtain ⟨rfl, rfl, rfl, rfl, rfl, rfl⟩ := h
  by_cases hx : xs.length = 0
  · have : xs = [] := List.length_eq_zero_iff.1 hx
    subst this
    by_cases hy : ys.length = 0
    · have : ys = [] := List.length_eq_zero_iff.1 hy
      subst this
      exact Or.inl ⟨rfl, rfl, rfl, rfl⟩
    · refine Or.inr (Or.inl ⟨rfl, by omega, rfl, ?_, rfl, rfl⟩)
      simp [failOf, empty_of (show 0 < ys.length by omega)]
  · by_cases hy : ys.length = 0
    · have : ys = [] := List.length_eq_zero_iff.1 hy
      subst this
      refine Or.inr (Or.inr (Or.inl ⟨by omega, rfl, ?_, rfl, by simp, by simp⟩))
      simp [failOf, empty_of (show 0 < xs.length by omega)]
    · have hxe := empty_of (show 0 < xs.length by omega)
      have hye := empty_of (show 0 < ys.length by omega)
      have hxye : (xs ++ ys).isEmpty = false := empty_of (by rw [List.length_append]; omega)
      refine Or.inr (Or.inr (Or.inr ⟨by omega, by omega, by simp [failOf, hxe], by simp [failOf, hye], ?_, ?_⟩))
      · unfold failOf
        rw [hxye, hxe, hye, someText_append]
        simp
      · unfold failOf textOf
        rw [hxye, hxe, hye, reasons_append]
        simp only [Bool.false_or]
        cases sx : someText xs <;> cases sy : someText ys
        · rw [reasons_nil sx, reasons_nil sy]; rfl
        · rw [reasons_nil sx]; simp
        · rw [reasons_nil sy]; simp
        · have := joined_append (reasons_ne sx) (reasons_ne sy)
          simp only [if_true]
          exact this
theorem textOf_size {xs : List ByteArray} (h : Szs xs 1048576) (hl : xs.length ≤ 65536) : (textOf xs).size ≤ 68719607808 := by
  unfold textOf
  split
  · show (16 : Nat) ≤ _
    omega
  · have h1 := joined_size_le (reasons xs)
    have h2 := total_reasons xs
    have h3 := total_le xs _ h
    omega
end Go.Proofs.Qxb6616790aDoor.Ce
