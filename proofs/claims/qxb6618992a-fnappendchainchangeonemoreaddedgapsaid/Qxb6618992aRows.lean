/-
  No cell of these rows narrows 'for every input' (looked for: loops, veiled, ifaces, maps, wideKeys, modest, calm, conditions, laid).
  DERIVED. THE GIVEN ROWS OF THIS SEAT. 2 by the template 'for every input the law returns true; each argument reads behind the call as it read before'; 0 by the template 'total and deterministic' (their statements: Qxb6618992aTotals.lean).
  GIVEN WITH THE SEED: the statements are not yours to turn. If you find one false, say at which input.
  Laid BY PROGRAM, IN A SANDBOX (cutbox-rows.mjs): the forced cells as the released guide's own fill.sh prints them over the translation 39c769179666c764… (all of the seat's roots in one cut). By AI agents, Wed Nov 11 2026. No macro, syntax, notation, axiom, sorry.
-/
import Derived.Test.Qxb6618992aChecked
import GoSem.Claim
import GoSem.ClaimJoined
import GoSem.ClaimMapViews
import Derived.JoinedTies
import Derived.KernelRfl
namespace Go.Proofs.Qxb6618992a
/- THE CELL 'sum', in the pinned program and in every row, IS THE sha256 OF THE DUMP (.gsa) THAT Qxb6618992aProg.lean LOADS. Nothing in Lean hashes anything: it is a label: what it is worth is what the hold of that sum in a sandbox is worth. -/
noncomputable def Try.pinned : Pinned := { name := "qxb6618992a", sum := "39c769179666c76484a912857f577d885b85084c74ca1bea91f7f142c1c8c2d4", checked := Try.checked }
namespace Rows
def none {H : Type} : Left H := { results := [], args := [] }

/-- 'zzlaws_root_b1.FnAppendChainChangeExtendsBuf': WHATEVER THE INPUT: true; the input reads as it did. -/
def fnAppendChainChangeExtendsBufSpec : ChangeSpec := { name := "fnAppendChainChangeExtendsBuf", fn := fun _ => fun
  | [d1, d2, d3, d4, d5, d6] => { results := [.lit (.bool true)], args := [d1, d2, d3, d4, d5, d6] }
  | _ => none }
def fnAppendChainChangeExtendsBufRow : OpenClaim := { program := "qxb6618992a", sum := "39c769179666c76484a912857f577d885b85084c74ca1bea91f7f142c1c8c2d4", func := "example.com/rangesieve/rangesieve/zzlaws_root_b1.FnAppendChainChangeExtendsBuf", spec := "fnAppendChainChangeExtendsBuf", unfollowed := true, recurses := true, named := ["encoding/binary.LittleEndian", "encoding/binary.BigEndian"], apart := false }
def FnAppendChainChangeExtendsBufSaid : Prop := fnAppendChainChangeExtendsBufRow.holds Try.pinned (OpenSpec.ofChange fnAppendChainChangeExtendsBufSpec)

/-- ITS FALSE NEIGHBOUR: 'it returns false'. Refute it at one input. -/
def fnAppendChainChangeExtendsBufWrong : ChangeSpec := { name := "fnAppendChainChangeExtendsBuf", fn := fun _ => fun
  | [d1, d2, d3, d4, d5, d6] => { results := [.lit (.bool false)], args := [d1, d2, d3, d4, d5, d6] }
  | _ => none }
def FnAppendChainChangeExtendsBufWrongFalsely : Prop := fnAppendChainChangeExtendsBufRow.holds Try.pinned (OpenSpec.ofChange fnAppendChainChangeExtendsBufWrong)

/-- 'zzlaws_root_b1.FnAppendChainChangeOneMoreAddedGap': WHATEVER THE INPUT: true; the input reads as it did. -/
def fnAppendChainChangeOneMoreAddedGapSpec : ChangeSpec := { name := "fnAppendChainChangeOneMoreAddedGap", fn := fun _ => fun
  | [d1, d2, d3, d4, d5, d6, d7, d8] => { results := [.lit (.bool true)], args := [d1, d2, d3, d4, d5, d6, d7, d8] }
  | _ => none }
def fnAppendChainChangeOneMoreAddedGapRow : OpenClaim := { program := "qxb6618992a", sum := "39c769179666c76484a912857f577d885b85084c74ca1bea91f7f142c1c8c2d4", func := "example.com/rangesieve/rangesieve/zzlaws_root_b1.FnAppendChainChangeOneMoreAddedGap", spec := "fnAppendChainChangeOneMoreAddedGap", unfollowed := true, recurses := true, named := ["encoding/binary.LittleEndian", "encoding/binary.BigEndian"], apart := false }
def FnAppendChainChangeOneMoreAddedGapSaid : Prop := fnAppendChainChangeOneMoreAddedGapRow.holds Try.pinned (OpenSpec.ofChange fnAppendChainChangeOneMoreAddedGapSpec)

/-- ITS FALSE NEIGHBOUR: 'it returns false'. Refute it at one input. -/
def fnAppendChainChangeOneMoreAddedGapWrong : ChangeSpec := { name := "fnAppendChainChangeOneMoreAddedGap", fn := fun _ => fun
  | [d1, d2, d3, d4, d5, d6, d7, d8] => { results := [.lit (.bool false)], args := [d1, d2, d3, d4, d5, d6, d7, d8] }
  | _ => none }
def FnAppendChainChangeOneMoreAddedGapWrongFalsely : Prop := fnAppendChainChangeOneMoreAddedGapRow.holds Try.pinned (OpenSpec.ofChange fnAppendChainChangeOneMoreAddedGapWrong)

end Rows
end Go.Proofs.Qxb6618992a
