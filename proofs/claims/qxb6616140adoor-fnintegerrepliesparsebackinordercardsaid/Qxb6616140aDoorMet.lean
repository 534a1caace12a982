/-
  WHAT THE LAID VARIABLES GIVE, FOR 'Rows.FnIntegerRepliesParseBackInOrderSaid' AND OF ITS TIED CARD.
-/
import Derived.Test.Qxb6616140aDoorRows
import Derived.Test.Qxb6616140aDoorTie
import Derived.Test.Qxb6616140aDoorCards
import Derived.Test.Qxb6616140aDoorLaw
import Derived.WalkKit
import Derived.ProofKit
import Derived.OpenShut
import Derived.ChangeOld
import Derived.Below
import Derived.LaidMore
import Derived.Stop.Joined
import Derived.SevenTiedAt
import Derived.Lib.LaidTab
namespace Go.Proofs.Qxb6616140aDoor.fnIntegerRepliesParseBackInOrder
open Go.ChangeShapes Go.WideShapes Go.ChangeAt Go.RowKit
open Go.Proofs.Qxb6616140aDoor.Rs
set_option linter.unusedVariables false

theorem own : ownKnob Tryd.prog.godebug = none := by kernel_rfl
theorem laidOut : laidOutB Tryd.prog = true := by kernel_rfl
theorem gPow : Tryd.prog.globalNamed "internal/strconv.uint64pow10" = some 9 := by kernel_rfl
theorem tPow : (Tryd.prog.globals[9]?).map (·.type) = some 143 := by kernel_rfl

theorem door_met (os : Os) (args : Array Value) : laidMetH Tryd.prog Rows.fnIntegerRepliesParseBackInOrderRow.laid ((World.doorLaid Tryd.prog 4000 os).forCall (fun _ _ => 0) ⟨#[], args, []⟩).memory :=
  laidMetH_of_parts3 (fuel := 8) (laidMet_of_run' 8 (by as_aux_lemma => kernel_rfl) (by as_aux_lemma => kernel_rfl)) (by as_aux_lemma => kernel_rfl) (by as_aux_lemma => kernel_rfl)

theorem tab_of {W : World} (h : laidMetH Tryd.prog Rows.fnIntegerRepliesParseBackInOrderRow.laid W) : Lib.TabIs Tryd.prog W "internal/strconv.uint64pow10" .u64 Lib.pow10Tab := by
  rw [MakeChecks.laidMetH_plain _ _ _ (by as_aux_lemma => kernel_rfl)] at h
  obtain ⟨ps, ⟨g0, t0, cs0, f0, p0, q0, hg0, ht0, hv0, hd0, ⟨g1, t1, cs1, f1, p1, q1, hg1, ht1, hv1, hd1, ⟨g2, t2, cs2, f2, p2, q2, hg2, ht2, hv2, hd2, _, _⟩, _⟩, _⟩, _, _⟩ := h
  obtain rfl := Option.some.inj (gPow.symm.trans hg2)
  obtain rfl := Option.some.inj (tPow.symm.trans ht2)
  unfold Lib.TabIs
  rw [hv2, ← Lib.cells_of_tab Tryd.underlying143 Tryd.underlying67 (by as_aux_lemma => kernel_rfl) (by as_aux_lemma => kernel_rfl) (zs := Lib.pow10Tab) hd2]

end Go.Proofs.Qxb6616140aDoor.fnIntegerRepliesParseBackInOrder
