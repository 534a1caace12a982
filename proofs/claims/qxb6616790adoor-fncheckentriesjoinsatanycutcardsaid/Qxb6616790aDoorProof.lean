/-
  THE PROOF OF 'Rows.FnCheckEntriesJoinsAtAnyCutSaid' AND OF ITS TIED CARD.
-/
import Derived.Test.Qxb6616790aDoorRows
import Derived.Test.Qxb6616790aDoorTie
import Derived.Test.Qxb6616790aDoorCards
import Derived.Test.Qxb6616790aDoorLift
import Derived.Test.Qxb6616790aDoorFacts
import Derived.WalkKit
import Derived.ProofKit
import Derived.OpenShut
import Derived.ChangeOld
import Derived.Below
import Derived.LaidMore
import Derived.Stop.Joined
import Derived.SevenTiedAt
namespace Go.Proofs.Qxb6616790aDoor.fnCheckEntriesJoinsAtAnyCut
open Go.ChangeShapes Go.WideShapes Go.ChangeAt Go.RowKit
open Go.Proofs.Qxb6616790aDoor.Ce
set_option linter.unusedVariables false

set_option maxHeartbeats 4000000 in
theorem over : Rows.FnCheckEntriesJoinsAtAnyCutSaid :=
  OpenClaim.holds_of_wide 3 Tryd.f3 rfl rfl rfl rfl rfl rfl rfl ⟨rfl, rfl, rfl, rfl, rfl⟩ rfl rfl rfl rfl rfl (by as_aux_lemma => kernel_rfl) Tryd.func3 facts
    (of_decide_eq_true (by as_aux_lemma => kernel_rfl)) (by unfold Func.isWrapper; first | (rw [if_pos (by decide +kernel)]; kernel_rfl) | (rw [if_neg (by decide +kernel)]; exact ⟨rfl, rfl⟩))
    (fun os started H enc _ => lifted os started H enc)

set_option maxHeartbeats 4000000 in
/-- THE STATEMENT -/
theorem proved : Rows.FnCheckEntriesJoinsAtAnyCutCardSaid :=
  Claim7.holds_tied_plain_at .later [] [.called] true (true, "a01d98ed6397617a703c874f5d1f8a436cdb88b1a5ac21752df5bdbe7a0f875f") true
    over (fun _ h => by cases h) (by as_aux_lemma => kernel_rfl) (fun _ h => by cases h) fnCheckEntriesJoinsAtAnyCut_row_tie rfl ⟨rfl, rfl⟩ (by as_aux_lemma => kernel_rfl) rfl
    (fun f fn hf hfn => by
      obtain rfl : f = 3 := Option.some.inj ((show Tryd.prog.funcNamed "example.com/proofgate/proofgate/zzlaws_pkg_gate_b1.FnCheckEntriesJoinsAtAnyCut" = some 3 by kernel_rfl).symm.trans hf) |>.symm
      obtain rfl : fn = Tryd.f3 := (Option.some.inj (Tryd.func3.symm.trans hfn)).symm
      exact ⟨by kernel_rfl, fun j t ht => by
        rw [Tryd.params3] at ht
        have hm : t ∈ [22] := by simpa using Array.mem_of_getElem? ht
        have hall : ([22].all fun u => !Tryd.prog.wantsStandIn u) = true := by kernel_rfl
        exact (show Tryd.prog.wantsStandIn t = false by simpa using List.all_eq_true.1 hall t hm)⟩)
    (by as_aux_lemma => kernel_rfl)
#print axioms proved
end Go.Proofs.Qxb6616790aDoor.fnCheckEntriesJoinsAtAnyCut
