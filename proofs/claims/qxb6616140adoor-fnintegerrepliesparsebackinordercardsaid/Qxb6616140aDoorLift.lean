/-
  THE WALK CARRIED TO THE DOOR, FOR 'Rows.FnIntegerRepliesParseBackInOrderSaid' AND OF ITS TIED CARD.
-/
import Derived.Test.Qxb6616140aDoorRows
import Derived.Test.Qxb6616140aDoorTie
import Derived.Test.Qxb6616140aDoorCards
import Derived.Test.Qxb6616140aDoorLaw
import Derived.Test.Qxb6616140aDoorMet
import Derived.WalkKit
import Derived.ProofKit
import Derived.OpenShut
import Derived.ChangeOld
import Derived.Below
import Derived.LaidMore
import Derived.Stop.Joined
import Derived.SevenTiedAt
import Derived.Lib.LaidTab
namespace Go.Proofs.Qxb6616140aDoor.fnIntegerRepliesParseBackInOrder
open Go.ChangeShapes Go.WideShapes Go.ChangeAt Go.RowKit
open Go.Proofs.Qxb6616140aDoor.Rs
set_option linter.unusedVariables false

theorem wf_i64 {n : Int} (h : (Lit.int .i64 n).wf = true) : InI64 n := by
  simp [Lit.wf] at h
  have e1 : IntKind.i64.min = -9223372036854775808 := by decide
  have e2 : IntKind.i64.max = 9223372036854775807 := by decide
  exact ⟨by omega, by omega⟩

theorem walk (a : Option Addr) (n c : Nat) (X : Nat → Int) (w : World) (hn : n ≤ maxLen) (hX : ∀ j, InI64 (X j)) (hx : XsIn w a n X) (htab : Lib.TabIs Tryd.prog w "internal/strconv.uint64pow10" .u64 Lib.pow10Tab) :
    Calls Tryd.prog 3 #[.slice a n c] w fun e w' => e = .returned (.bool true) ∧ Below w.heap.size w w' := by
  by_cases h0 : n = 0
  · subst h0
    exact law_nil a c w
  · obtain ⟨b, o, rfl, hc⟩ := hx.resolve_left h0
    exact law_some b o n c X w (by omega) hn hX hc htab

set_option maxRecDepth 100000 in
theorem lifted (os : Os) (started : os.Started) (H : Type) (enc : TypeId × Value → H) :
    ReturnsInHanded {} Tryd.checked os 3 .any (fun w args => (Rows.fnIntegerRepliesParseBackInOrderSpec.pre enc Tryd.prog Tryd.f3 [] false w args ∧ laidMetH Tryd.prog Rows.fnIntegerRepliesParseBackInOrderRow.laid w) ∧ sizedMet enc Tryd.prog Tryd.f3 (OpenSpec.ofChange Rows.fnIntegerRepliesParseBackInOrderSpec) false w args)
      (Rows.fnIntegerRepliesParseBackInOrderSpec.post enc Tryd.prog Tryd.f3 false true false false) := by
  refine returnsInHanded_of_change_and (C := Tryd.checked) (X := fun w _ => laidMetH Tryd.prog Rows.fnIntegerRepliesParseBackInOrderRow.laid w) (fun _ _ _ hh h => h.of_heap hh) own started (by as_aux_lemma => kernel_rfl) Tryd.func3
    (ChangeSpec.witness_shaped (enc := enc) (C := Tryd.checked) (os := os) (X := fun w _ => laidMetH Tryd.prog Rows.fnIntegerRepliesParseBackInOrderRow.laid w) false (World.doorLaid Tryd.prog 4000 os) #[.slice none 0 0] 8 rfl (World.shaped_of_RefB (by as_aux_lemma => kernel_rfl) (by as_aux_lemma => kernel_rfl)) (by as_aux_lemma => kernel_rfl) (by as_aux_lemma => kernel_rfl) (by as_aux_lemma => kernel_rfl) (door_met os _)) ?_
  intro W base args ds gs before hval0 hW _ _ hL _
  have hval : ∀ (j : Nat) t v, Tryd.f3.params[j]? = some t → args[j]? = some v → Value.okWide Tryd.prog W .any base t v := hval0
  have hW' := hW
  obtain ⟨p, q, hA0, hV, rfl, hfz, hnd⟩ := hW
  have hA : DataW.TrodAll enc Tryd.prog W 0 (fun _ => true) true Tryd.f3.params.toList args.toList ds p := hA0
  rw [Tryd.params3] at hA hval
  obtain ⟨v0, vs0, d0, ds0, p0, q0, hargs, rfl, rfl, h0, r0⟩ := trodAll_cons hA
  obtain ⟨rfl, rfl, rfl⟩ := trodAll_nil r0
  obtain rfl : args = #[v0] := by cases args; simp_all
  obtain ⟨rfl, rfl⟩ := trodVars_none hV
  obtain ⟨a0, len0, cap0, rfl⟩ := okWide_slice Tryd.underlying22 (hval 0 22 v0 rfl rfl)
  have k0 := h0
  have lt0 : ∀ x ∈ p0, x.block < W.heap.size := by obtain ⟨m, hm⟩ := k0; exact DataW.trod_lt m _ _ _ hm
  obtain ⟨X, hX, hx, m0⟩ : ∃ X : Nat → Int, (∀ j, InI64 (X j)) ∧ XsIn W a0 len0 X ∧ len0 ≤ maxLen := by
    obtain ⟨fuel, hf⟩ := h0
    rcases open_ints Tryd.underlying22 Tryd.underlying2 (by as_aux_lemma => kernel_rfl) hf with ⟨hcs, _⟩ | ⟨x, l, c, zs, hcs, _, hl, hm, hz, _, hcell, hwz⟩
    · simp [Value.cells] at hcs
      obtain ⟨rfl, rfl, rfl⟩ := hcs
      exact ⟨fun _ => 0, fun _ => (⟨by decide, by decide⟩ : InI64 0), Or.inl rfl, Nat.zero_le _⟩
    · simp [Value.cells] at hcs
      obtain ⟨rfl, rfl, rfl⟩ := hcs
      simp at hz
      refine ⟨fun i => zs.getD i 0, fun j => ?_, ?_, Nat.le_trans hl hm⟩
      · by_cases hj : j < zs.length
        · have : zs.getD j 0 = zs[j] := by simp [List.getD_eq_getElem?_getD, List.getElem?_eq_getElem hj]
          show InI64 (zs.getD j 0)
          rw [this]
          exact wf_i64 (hwz _ (List.getElem_mem hj))
        · have : zs.getD j 0 = 0 := by simp [List.getD_eq_getElem?_getD, List.getElem?_eq_none (show zs.length ≤ j by omega)]
          show InI64 (zs.getD j 0)
          rw [this]
          exact ⟨by decide, by decide⟩
      · by_cases h0 : len0 = 0
        · exact Or.inl h0
        · obtain ⟨b, off, spot⟩ := x
          have hspot : spot = none := by simpa [Addr.add] using World.cell?_spot (hcell 0 (by omega))
          subst hspot
          exact Or.inr ⟨b, off, rfl, fun j hj => by rw [← add_plain]; exact hcell j (by omega)⟩
  clear hA0 hval0
  refine (walk a0 len0 cap0 X W m0 hX hx (tab_of hL)).mono fun e W' ⟨he, bel⟩ => ?_
  subst he
  exact ⟨_, rfl, _, _, _, [], _, [], hW', trodAll_mk1 (shut_bool Tryd.underlying4 _), (trodAll_cons_mk (Below.trod laidOut (by as_aux_lemma => kernel_rfl) (of_decide_eq_true (by as_aux_lemma => kernel_rfl)) k0 bel lt0) trodAll_mk0), rfl, bel.frame _, fun h => by cases h⟩

end Go.Proofs.Qxb6616140aDoor.fnIntegerRepliesParseBackInOrder
