/-
  What the laid variable gives the walk of FnCheckEntriesJoinsAtAnyCut.
-/
import Derived.Test.Qxb6616790aDoorRows
import Derived.Test.Qxb6616790aDoorLaw
import Derived.WalkKit
import Derived.ProofKit
import Derived.OpenShut
import Derived.ChangeOld
import Derived.Below
import Derived.OpenVars
import Derived.LaidMore
import Derived.Stop.LaidErr
import Derived.Stop.Joined
import Derived.SevenTiedAt
import Derived.SliceStrings
namespace Go.Proofs.Qxb6616790aDoor.fnCheckEntriesJoinsAtAnyCut
open Go.ChangeShapes Go.WideShapes Go.ChangeAt Go.RowKit
open Go.Proofs.Qxb6616790aDoor.Ce
set_option linter.unusedVariables false

theorem own : ownKnob Tryd.prog.godebug = none := by kernel_rfl
theorem laidOut : laidOutB Tryd.prog = true := by kernel_rfl
theorem gMiss : Tryd.prog.globalNamed "example.com/proofgate/proofgate/pkg/gate.errMissing" = some 0 := by kernel_rfl
theorem tMiss : (Tryd.prog.globals[0]?).map (·.type) = some 30 := by kernel_rfl
theorem cells40 : Tryd.prog.cellsOf 40 = 1 := by kernel_rfl
theorem cells9 : Tryd.prog.cellsOf 9 = 1 := by kernel_rfl
theorem star : ("*" ++ "errors.errorString" : String) = "*errors.errorString" := by decide
theorem row38 (u : TypeId) (h : Tryd.prog.typeName? 3 u = some "*errors.errorString") : u = 38 :=
  typeName_ptr_named (nm := "errors.errorString") (by rw [star]; kernel_rfl) (by kernel_rfl) (by decide) u (by rw [star]; exact h)

theorem door_met (os : Os) (args : Array Value) : laidMetH Tryd.prog Rows.fnCheckEntriesJoinsAtAnyCutRow.laid ((World.doorLaid Tryd.prog 4000 os).forCall (fun _ _ => 0) ⟨#[], args, []⟩).memory :=
  laidMetH_of_parts3 (fuel := 8) (laidMet_of_run' 8 (by as_aux_lemma => kernel_rfl) (by as_aux_lemma => kernel_rfl)) (by as_aux_lemma => kernel_rfl) (by as_aux_lemma => kernel_rfl)

theorem miss_of {W : World} (h : laidMetH Tryd.prog Rows.fnCheckEntriesJoinsAtAnyCutRow.laid W) : ∃ p, Miss W p := by
  rw [MakeChecks.laidMetH_plain _ _ _ (by as_aux_lemma => kernel_rfl)] at h
  obtain ⟨a, s, hv, hc, ht, _⟩ := laid_sentinel h gMiss tMiss Tryd.underlying30 row38 Tryd.underlying38 Tryd.underlying40 rfl rfl Tryd.underlying9 cells40 cells9
  refine ⟨a, by simpa using World.var?_cell gMiss hv 0, ?_⟩
  rw [hc]
  congr 2
  apply ByteArray.ext
  apply Array.toList_inj.1
  rw [ht]
  rfl

end Go.Proofs.Qxb6616790aDoor.fnCheckEntriesJoinsAtAnyCut
