/-
  The walk of FnCheckEntriesJoinsAtAnyCut carried to the door.
-/
import Derived.Test.Qxb6616790aDoorRows
import Derived.Test.Qxb6616790aDoorLaw
import Derived.Test.Qxb6616790aDoorMet
import Derived.WalkKit
import Derived.ProofKit
import Derived.OpenShut
import Derived.ChangeOld
import Derived.Below
import Derived.OpenVars
import Derived.LaidMore
import Derived.Stop.LaidErr
import Derived.Stop.Joined
import Derived.SevenTiedAt
import Derived.SliceStrings
namespace Go.Proofs.Qxb6616790aDoor.fnCheckEntriesJoinsAtAnyCut
open Go.ChangeShapes Go.WideShapes Go.ChangeAt Go.RowKit
open Go.Proofs.Qxb6616790aDoor.Ce
set_option linter.unusedVariables false

theorem below_of_grown {w w' : World} (h : w.grownBy w' none) : Below w.heap.size w w' := ⟨h.os, h.tape, h.output, h.size, fun i hi => h.block i hi (by simp)⟩

theorem take_len {ss : List ByteArray} {l : Nat} (hl : l ≤ ss.length) : (ss.take l).length = l := by rw [List.length_take]; omega
theorem take_getD {ss : List ByteArray} {l j : Nat} (hj : j < l) : (ss.take l).getD j ByteArray.empty = ss.getD j ByteArray.empty := by
  rw [List.getD_eq_getElem?_getD, List.getD_eq_getElem?_getD, List.getElem?_take_of_lt hj]
theorem strs_open {W : World} {x : Addr} {l : Nat} {ss : List ByteArray} (hl : l ≤ ss.length) (hcell : ∀ i, i < ss.length → W.cell? (x.add i) = some (.string (ss.getD i ByteArray.empty))) : Strs W (some x) (ss.take l) := by
  by_cases h0 : l = 0
  · exact Or.inl (by rw [take_len hl]; exact h0)
  · obtain ⟨b, off, spot⟩ := x
    have hspot : spot = none := by simpa [Addr.add] using World.cell?_spot (hcell 0 (by omega))
    subst hspot
    refine Or.inr ⟨b, off, rfl, fun j hj => ?_⟩
    rw [take_len hl] at hj
    rw [take_getD hj, ← add_plain]
    exact hcell j (by omega)
theorem szs_open {l : Nat} {ss : List ByteArray} (hl : l ≤ ss.length) (h : ∀ s ∈ ss, s.size ≤ maxLen) : Szs (ss.take l) maxLen := by
  intro j hj
  rw [take_len hl] at hj
  rw [take_getD hj, List.getD_eq_getElem?_getD, List.getElem?_eq_getElem (show j < ss.length by omega)]
  exact h _ (List.getElem_mem _)

set_option maxRecDepth 100000 in
theorem lifted (os : Os) (started : os.Started) (H : Type) (enc : TypeId × Value → H) :
    ReturnsInHanded {} Tryd.checked os 3 .any (fun w args => (Rows.fnCheckEntriesJoinsAtAnyCutSpec.pre enc Tryd.prog Tryd.f3 [] false w args ∧ laidMetH Tryd.prog Rows.fnCheckEntriesJoinsAtAnyCutRow.laid w) ∧ sizedMet enc Tryd.prog Tryd.f3 (OpenSpec.ofChange Rows.fnCheckEntriesJoinsAtAnyCutSpec) false w args)
      (Rows.fnCheckEntriesJoinsAtAnyCutSpec.post enc Tryd.prog Tryd.f3 false true false false) := by
  refine returnsInHanded_of_change_and (C := Tryd.checked) (X := fun w _ => laidMetH Tryd.prog Rows.fnCheckEntriesJoinsAtAnyCutRow.laid w) (fun _ _ _ hh h => h.of_heap hh) own started (by as_aux_lemma => kernel_rfl) Tryd.func3
    (ChangeSpec.witness_shaped (enc := enc) (C := Tryd.checked) (os := os) (X := fun w _ => laidMetH Tryd.prog Rows.fnCheckEntriesJoinsAtAnyCutRow.laid w) false (World.doorLaid Tryd.prog 4000 os) #[.slice none 0 0, .slice none 0 0] 8 rfl (World.shaped_of_RefB (by as_aux_lemma => kernel_rfl) (by as_aux_lemma => kernel_rfl)) (by as_aux_lemma => kernel_rfl) (by as_aux_lemma => kernel_rfl) (by as_aux_lemma => kernel_rfl) (door_met os _)) ?_
  intro W base args ds gs before hval0 hW _ _ hL _
  have hval : ∀ (j : Nat) t v, Tryd.f3.params[j]? = some t → args[j]? = some v → Value.okWide Tryd.prog W .any base t v := hval0
  have hW' := hW
  obtain ⟨p, q, hA0, hV, rfl, hfz, hnd⟩ := hW
  have hA : DataW.TrodAll enc Tryd.prog W 0 (fun _ => true) true Tryd.f3.params.toList args.toList ds p := hA0
  rw [Tryd.params3] at hA hval
  obtain ⟨v0, vs0, d0, ds0, p0, q0, hargs, rfl, rfl, h0, r0⟩ := trodAll_cons hA
  obtain ⟨v1, vs1, d1, ds1, p1, q1, rfl, rfl, rfl, h1, r1⟩ := trodAll_cons r0
  obtain ⟨rfl, rfl, rfl⟩ := trodAll_nil r1
  obtain rfl : args = #[v0, v1] := by cases args; simp_all
  obtain ⟨g0, rfl⟩ : ∃ g0, gs = [g0] := by
    match gs, hV with
    | [g], _ => exact ⟨g, rfl⟩
    | [], hV => exact hV.elim
    | _ :: _ :: _, hV =>
      obtain ⟨_, _, _, _, _, _, _, _, _, _, hs, _⟩ := hV
      exact hs.elim
  obtain ⟨a0, len0, cap0, rfl⟩ := okWide_slice Tryd.underlying22 (hval 0 22 v0 rfl rfl)
  obtain ⟨a1, len1, cap1, rfl⟩ := okWide_slice Tryd.underlying22 (hval 1 22 v1 rfl rfl)
  have k0 := h0
  have k1 := h1
  have lt0 : ∀ x ∈ p0, x.block < W.heap.size := by obtain ⟨m, hm⟩ := k0; exact DataW.trod_lt m _ _ _ hm
  have lt1 : ∀ x ∈ p1, x.block < W.heap.size := by obtain ⟨m, hm⟩ := k1; exact DataW.trod_lt m _ _ _ hm
  obtain ⟨xs, rfl, w0, s0, m0⟩ : ∃ xs : List ByteArray, len0 = xs.length ∧ Strs W a0 xs ∧ Szs xs maxLen ∧ xs.length ≤ maxLen := by
    obtain ⟨fuel, hf⟩ := h0
    rcases open_strings Tryd.underlying22 Tryd.underlying9 (by as_aux_lemma => kernel_rfl) hf with ⟨hcs, _⟩ | ⟨x, l, c, ss, hcs, _, hl, hm, hz, _, hcell, hsz⟩
    · simp [Value.cells] at hcs
      obtain ⟨rfl, rfl, rfl⟩ := hcs
      exact ⟨[], rfl, Or.inl rfl, fun j hj => absurd hj (by simp), Nat.zero_le _⟩
    · simp [Value.cells] at hcs
      obtain ⟨rfl, rfl, rfl⟩ := hcs
      simp at hz
      have hl' := hl
      rw [← hz] at hl'
      exact ⟨_, (take_len hl').symm, strs_open hl' hcell, szs_open hl' hsz, by rw [take_len hl']; exact Nat.le_trans hl hm⟩
  obtain ⟨ys, rfl, w1, s1, m1⟩ : ∃ ys : List ByteArray, len1 = ys.length ∧ Strs W a1 ys ∧ Szs ys maxLen ∧ ys.length ≤ maxLen := by
    obtain ⟨fuel, hf⟩ := h1
    rcases open_strings Tryd.underlying22 Tryd.underlying9 (by as_aux_lemma => kernel_rfl) hf with ⟨hcs, _⟩ | ⟨x, l, c, ss, hcs, _, hl, hm, hz, _, hcell, hsz⟩
    · simp [Value.cells] at hcs
      obtain ⟨rfl, rfl, rfl⟩ := hcs
      exact ⟨[], rfl, Or.inl rfl, fun j hj => absurd hj (by simp), Nat.zero_le _⟩
    · simp [Value.cells] at hcs
      obtain ⟨rfl, rfl, rfl⟩ := hcs
      simp at hz
      have hl' := hl
      rw [← hz] at hl'
      exact ⟨_, (take_len hl').symm, strs_open hl' hcell, szs_open hl' hsz, by rw [take_len hl']; exact Nat.le_trans hl hm⟩
  clear hA0 hval0
  obtain ⟨pm, hM⟩ := miss_of hL
  refine (law_walk a0 a1 cap0 cap1 xs ys pm W m0 m1 w0 w1 s0 s1 hM).mono fun e W' ⟨he, hgr⟩ => ?_
  have bel := below_of_grown hgr
  subst he
  exact ⟨_, rfl, _, _, _, [], _, q, hW', trodAll_mk1 (shut_bool Tryd.underlying4 _), (trodAll_cons_mk (Below.trod laidOut (by as_aux_lemma => kernel_rfl) (of_decide_eq_true (by as_aux_lemma => kernel_rfl)) k0 bel lt0) (trodAll_cons_mk (Below.trod laidOut (by as_aux_lemma => kernel_rfl) (of_decide_eq_true (by as_aux_lemma => kernel_rfl)) k1 bel lt1) trodAll_mk0)), bel.trodVars laidOut (by as_aux_lemma => kernel_rfl) hV, bel.frame _, fun h => by cases h⟩

end Go.Proofs.Qxb6616790aDoor.fnCheckEntriesJoinsAtAnyCut
