/-
  The cells of a row of gaps, and one gap put in.
-/
import Derived.Test.Qxb6618992aRowReads
import Derived.WideShapes
namespace Go.Proofs.Qxb6618992a.Ch
open Go.RowKit

def g4 (g : Gp) : List Value := [.int .u64 g.1.1.1, .int .u64 g.1.1.2, .int .u64 g.1.2.1, .int .u64 g.1.2.2]
def gcells (gs : Nat → Gp) : Nat → List Value
  | 0 => []
  | m + 1 => gcells gs m ++ g4 (gs m)
theorem g4_length (g : Gp) : (g4 g).length = 4 := rfl
theorem gcells_length (gs : Nat → Gp) : ∀ m, (gcells gs m).length = m * 4
  | 0 => rfl
  | m + 1 => by rw [gcells, List.length_append, gcells_length gs m, g4_length]; omega
theorem gcells_add (gs : Nat → Gp) (a : Nat) : ∀ b, gcells gs (a + b) = gcells gs a ++ gcells (fun j => gs (a + j)) b
  | 0 => by simp [gcells]
  | b + 1 => by rw [← Nat.add_assoc, gcells, gcells_add gs a b, gcells, List.append_assoc]
theorem gcells_congr {f g : Nat → Gp} : ∀ {n : Nat}, (∀ j, j < n → f j = g j) → gcells f n = gcells g n
  | 0, _ => rfl
  | n + 1, h => by rw [gcells, gcells, gcells_congr (fun j hj => h j (by omega)), h n (by omega)]
theorem gcells_get (gs : Nat → Gp) {c : Nat} (hc : c < 4) {j : Nat} : ∀ {m : Nat}, j < m → (gcells gs m)[j * 4 + c]? = (g4 (gs j))[c]?
  | 0, h => absurd h (by omega)
  | m + 1, h => by
    rw [gcells]
    by_cases e : j = m
    · subst e
      rw [List.getElem?_append_right (by rw [gcells_length]; omega), gcells_length, show j * 4 + c - j * 4 = c by omega]
    · rw [List.getElem?_append_left (by rw [gcells_length]; omega)]
      exact gcells_get gs hc (by omega)
theorem g4_one (g : Gp) : ∀ u ∈ g4 g, u.oneCell' = true := by
  intro u hu
  simp [g4] at hu
  rcases hu with rfl | rfl | rfl | rfl <;> rfl
theorem gcells_one (gs : Nat → Gp) : ∀ m, ∀ u ∈ gcells gs m, u.oneCell' = true
  | 0, u, h => by simp [gcells] at h
  | m + 1, u, h => by
    rw [gcells, List.mem_append] at h
    exact h.elim (gcells_one gs m u) (g4_one _ u)

/-- gs, with g put in at place k. -/
def ins (gs : Nat → Gp) (k : Nat) (g : Gp) (j : Nat) : Gp := if j < k then gs j else if j = k then g else gs (j - 1)
theorem gcells_ins (gs : Nat → Gp) (k m : Nat) (g : Gp) : gcells (ins gs k g) (k + 1 + m) = gcells gs k ++ g4 g ++ gcells (fun j => gs (k + j)) m := by
  rw [gcells_add, gcells]
  congr 1
  · congr 1
    · exact gcells_congr fun j hj => by simp [ins, hj]
    · simp [ins]
  · refine gcells_congr fun j _ => ?_
    have h1 : ¬ k + 1 + j < k := by omega
    have h2 : ¬ k + 1 + j = k := by omega
    simp only [ins, h1, h2, if_false]
    congr 1
    omega
theorem encGaps_ins (gs : Nat → Gp) (k m : Nat) (g : Gp) : encGaps (fun j => (ins gs k g j).1) (k + 1 + m) = encGaps (fun j => (gs j).1) k ++ encGap g.1 ++ encGaps (fun j => (gs (k + j)).1) m := by
  rw [encGaps_add, encGaps]
  congr 1
  · congr 1
    · exact encGaps_congr fun j hj => by simp [ins, hj]
    · simp [ins]
  · refine encGaps_congr fun j _ => ?_
    have h1 : ¬ k + 1 + j < k := by omega
    have h2 : ¬ k + 1 + j = k := by omega
    simp only [ins, h1, h2, if_false]
    congr 2
    omega

theorem GapsAt.tail {w : World} {b o n : Nat} {gs : Nat → Gp} (h : GapsAt w b o n gs) (k : Nat) (hk : k ≤ n) : GapsAt w b (o + k * 4) (n - k) (fun j => gs (k + j)) := by
  intro j hj
  have := h (k + j) (by omega)
  rw [show o + (k + j) * 4 = o + k * 4 + j * 4 by omega] at this
  exact this
theorem GapsAt.cells {w : World} {b o n : Nat} {gs : Nat → Gp} (h : GapsAt w b o n gs) : ∀ j u, (gcells gs n)[j]? = some u → w.cell? ((⟨b, o, none⟩ : Addr).add j) = some u := by
  intro j u hu
  have hj : j < n * 4 := by have := (List.getElem?_eq_some_iff.1 hu).1; rwa [gcells_length] at this
  obtain ⟨q, c, rfl, hc⟩ : ∃ q c, j = q * 4 + c ∧ c < 4 := ⟨j / 4, j % 4, by omega, by omega⟩
  rw [gcells_get gs hc (by omega)] at hu
  obtain ⟨h0, h1, h2, h3⟩ := h q (by omega)
  rw [Go.WideShapes.add_plain, ← hu, ← Nat.add_assoc]
  match c, hc with
  | 0, _ => exact h0
  | 1, _ => exact h1
  | 2, _ => exact h2
  | 3, _ => exact h3
theorem gapsAt_of {w : World} {g n : Nat} {gs : Nat → Gp} (h : ∀ j u, (gcells gs n)[j]? = some u → w.cell? ((⟨g, 0, none⟩ : Addr).add j) = some u) : GapsAt w g 0 n gs := by
  intro j hj
  have key : ∀ c, c < 4 → ∀ u, (g4 (gs j))[c]? = some u → w.cell? ⟨g, 0 + j * 4 + c, none⟩ = some u := fun c hc u hu => by
    have := h (j * 4 + c) u (by rw [gcells_get gs hc hj]; exact hu)
    rw [Go.WideShapes.add_plain] at this
    rw [Nat.add_assoc]
    exact this
  exact ⟨key 0 (by omega) _ rfl, key 1 (by omega) _ rfl, key 2 (by omega) _ rfl, key 3 (by omega) _ rfl⟩

/-- the cells of added[:k]. -/
theorem head_cells {w : World} {a : Option Addr} {n c : Nat} {gs : Nat → Gp} (h : GapsIn w a n c gs) (k : Nat) (hk : k ≤ n) : ∀ ad, a = some ad → ∀ j u, (gcells gs k)[j]? = some u → w.cell? (ad.add j) = some u := by
  intro ad ha j u hu
  rcases h.2 with h0 | ⟨b, o, e, hg⟩
  · obtain rfl : k = 0 := by omega
    simp [gcells] at hu
  · rw [ha] at e
    cases e
    exact GapsAt.cells (n := k) (fun j hj => hg j (by omega)) j u hu
/-- the cells of added[k:]. -/
theorem tail_cells {w : World} {a : Option Addr} {n c : Nat} {gs : Nat → Gp} (h : GapsIn w a n c gs) (hc : n ≤ c) (k : Nat) (hk : k ≤ n) : ∀ ad, (if c = k then a else a.map (·.add (k * 4))) = some ad → ∀ j u, (gcells (fun j => gs (k + j)) (n - k))[j]? = some u → w.cell? (ad.add j) = some u := by
  intro ad ha j u hu
  by_cases hkn : k = n
  · subst hkn
    simp [gcells] at hu
  rcases h.2 with h0 | ⟨b, o, e, hg⟩
  · omega
  · rw [if_neg (by omega), e] at ha
    cases ha
    have := (hg.tail k hk).cells j u hu
    simp only [Go.WideShapes.add_plain] at this ⊢
    exact this

end Go.Proofs.Qxb6618992a.Ch
