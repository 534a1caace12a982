/-
  NARROWER THAN 'FOR EVERY INPUT', by the rows' own cells (each row's printed sentence says how): FnCheckEntriesJoinsAtAnyCut: ifaces, laid.
  DERIVED. THE GIVEN ROWS OF THIS SEAT. 1 by the template 'for every input the law returns true; each argument reads behind the call as it read before'; 0 by the template 'total and deterministic' (their statements: Qxb6616790aDoorTotals.lean).
  GIVEN WITH THE SEED: the statements are not yours to turn. If you find one false, say at which input.
  Laid BY PROGRAM, IN A SANDBOX (cutbox-rows.mjs): the forced cells as the released guide's own fill.sh prints them over the translation 1e24a4ff906b2d70… (all of the seat's roots in one cut). By AI agents, Wed Nov 11 2026. No macro, syntax, notation, axiom, sorry.
-/
import Derived.Test.Qxb6616790aDoorChecked
import GoSem.Claim
import GoSem.ClaimJoined
import GoSem.ClaimMapViews
import Derived.JoinedTies
import Derived.KernelRfl
namespace Go.Proofs.Qxb6616790aDoor
/- THE CELL 'sum', in the pinned program and in every row, IS THE sha256 OF THE DUMP (.gsa) THAT Qxb6616790aDoorProg.lean LOADS. Nothing in Lean hashes anything: it is a label: what it is worth is what the hold of that sum in a sandbox is worth. -/
noncomputable def Tryd.pinned : Pinned := { name := "qxb6616790adoor", sum := "1e24a4ff906b2d7038f134c7533881c69d6ef0d0dcf98725452c5ff34797ad12", checked := Tryd.checked }
namespace Rows
def none {H : Type} : Left H := { results := [], args := [] }

/- WHAT THE LISTED PACKAGE-LEVEL VARIABLES READ AS WHEN THE CALL BEGINS. Each datum BY PROGRAM (the guide's laid-datum.mjs) off the statement by which the dump's own 'gosem.cut.vars' lays the variable. In a bare row this is a premise. The card (Qxb6616790aDoorCards.lean) ties it to the program's text. -/
def laid_example_com_proofgate_proofgate_pkg_gate_errMissing {H : Type} : DataW H := .iface "*errors.errorString" (.ptr (.agg [.lit (.string [109, 105, 115, 115, 105, 110, 103, 32, 111, 114, 32, 101, 109, 112, 116, 121])]))

/-- 'zzlaws_pkg_gate_b1.FnCheckEntriesJoinsAtAnyCut': WHATEVER THE INPUT: true; the input reads as it did. -/
def fnCheckEntriesJoinsAtAnyCutSpec : ChangeSpec := { name := "fnCheckEntriesJoinsAtAnyCut", vars := ["example.com/proofgate/proofgate/pkg/gate.errMissing"], fn := fun _ => fun
  | [d1, d2, g1] => { results := [.lit (.bool true)], args := [d1, d2], vars := [g1] }
  | _ => none }
def fnCheckEntriesJoinsAtAnyCutRow : OpenClaim := { program := "qxb6616790adoor", sum := "1e24a4ff906b2d7038f134c7533881c69d6ef0d0dcf98725452c5ff34797ad12", func := "example.com/proofgate/proofgate/zzlaws_pkg_gate_b1.FnCheckEntriesJoinsAtAnyCut", spec := "fnCheckEntriesJoinsAtAnyCut", inPlace := ["internal/abi.NoEscape", "internal/bytealg.MakeNoZero"], unfollowed := true, recurses := true, named := ["example.com/proofgate/proofgate/pkg/gate.errMissing"], ifaces := true, apart := false, laid := [("example.com/proofgate/proofgate/pkg/gate.errMissing", laid_example_com_proofgate_proofgate_pkg_gate_errMissing)] }
def FnCheckEntriesJoinsAtAnyCutSaid : Prop := fnCheckEntriesJoinsAtAnyCutRow.holds Tryd.pinned (OpenSpec.ofChange fnCheckEntriesJoinsAtAnyCutSpec)

/-- ITS FALSE NEIGHBOUR: 'it returns false'. Refute it at one input. -/
def fnCheckEntriesJoinsAtAnyCutWrong : ChangeSpec := { name := "fnCheckEntriesJoinsAtAnyCut", vars := ["example.com/proofgate/proofgate/pkg/gate.errMissing"], fn := fun _ => fun
  | [d1, d2, g1] => { results := [.lit (.bool false)], args := [d1, d2], vars := [g1] }
  | _ => none }
def FnCheckEntriesJoinsAtAnyCutWrongFalsely : Prop := fnCheckEntriesJoinsAtAnyCutRow.holds Tryd.pinned (OpenSpec.ofChange fnCheckEntriesJoinsAtAnyCutWrong)

end Rows
end Go.Proofs.Qxb6616790aDoor
