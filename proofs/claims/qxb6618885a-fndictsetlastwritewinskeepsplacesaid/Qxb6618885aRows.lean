/-
  No cell of these rows narrows 'for every input' (looked for: loops, veiled, ifaces, maps, wideKeys, modest, calm, conditions, laid).
  DERIVED. THE GIVEN ROWS OF THIS SEAT. 3 by the template 'for every input the law returns true; each argument reads behind the call as it read before'; 0 by the template 'total and deterministic' (their statements: Qxb6618885aTotals.lean).
  GIVEN WITH THE SEED: the statements are not yours to turn. If you find one false, say at which input.
  Laid BY PROGRAM, IN A SANDBOX (cutbox-rows.mjs): the forced cells as the released guide's own fill.sh prints them over the translation 4391e6128427ca60… (all of the seat's roots in one cut). By AI agents, Wed Nov 11 2026. No macro, syntax, notation, axiom, sorry.
-/
import Derived.Test.Qxb6618885aChecked
import GoSem.Claim
import GoSem.ClaimJoined
import GoSem.ClaimMapViews
import Derived.JoinedTies
import Derived.KernelRfl
namespace Go.Proofs.Qxb6618885a
/- THE CELL 'sum', in the pinned program and in every row, IS THE sha256 OF THE DUMP (.gsa) THAT Qxb6618885aProg.lean LOADS. Nothing in Lean hashes anything: it is a label: what it is worth is what the hold of that sum in a sandbox is worth. -/
noncomputable def Try.pinned : Pinned := { name := "qxb6618885a", sum := "4391e6128427ca607863ea1433c204b0baed7bbe2702bbf689e03f1b8b22a094", checked := Try.checked }
namespace Rows
def none {H : Type} : Left H := { results := [], args := [] }

/-- 'zzlaws_internal_render_b1.FnWithinADayCountsWindow': WHATEVER THE INPUT: true; the input reads as it did. -/
def fnWithinADayCountsWindowSpec : ChangeSpec := { name := "fnWithinADayCountsWindow", fn := fun _ => fun
  | [d1, d2] => { results := [.lit (.bool true)], args := [d1, d2] }
  | _ => none }
def fnWithinADayCountsWindowRow : OpenClaim := { program := "qxb6618885a", sum := "4391e6128427ca607863ea1433c204b0baed7bbe2702bbf689e03f1b8b22a094", func := "example.com/moldwright/moldwright/zzlaws_internal_render_b1.FnWithinADayCountsWindow", spec := "fnWithinADayCountsWindow", apart := false }
def FnWithinADayCountsWindowSaid : Prop := fnWithinADayCountsWindowRow.holds Try.pinned (OpenSpec.ofChange fnWithinADayCountsWindowSpec)

/-- ITS FALSE NEIGHBOUR: 'it returns false'. Refute it at one input. -/
def fnWithinADayCountsWindowWrong : ChangeSpec := { name := "fnWithinADayCountsWindow", fn := fun _ => fun
  | [d1, d2] => { results := [.lit (.bool false)], args := [d1, d2] }
  | _ => none }
def FnWithinADayCountsWindowWrongFalsely : Prop := fnWithinADayCountsWindowRow.holds Try.pinned (OpenSpec.ofChange fnWithinADayCountsWindowWrong)

/-- 'zzlaws_internal_render_b1.FnDictSetScriptMatchesOrderedModel': WHATEVER THE INPUT: true; the input reads as it did. -/
def fnDictSetScriptMatchesOrderedModelSpec : ChangeSpec := { name := "fnDictSetScriptMatchesOrderedModel", fn := fun _ => fun
  | [d1, d2] => { results := [.lit (.bool true)], args := [d1, d2] }
  | _ => none }
def fnDictSetScriptMatchesOrderedModelRow : OpenClaim := { program := "qxb6618885a", sum := "4391e6128427ca607863ea1433c204b0baed7bbe2702bbf689e03f1b8b22a094", func := "example.com/moldwright/moldwright/zzlaws_internal_render_b1.FnDictSetScriptMatchesOrderedModel", spec := "fnDictSetScriptMatchesOrderedModel", apart := false }
def FnDictSetScriptMatchesOrderedModelSaid : Prop := fnDictSetScriptMatchesOrderedModelRow.holds Try.pinned (OpenSpec.ofChange fnDictSetScriptMatchesOrderedModelSpec)

/-- ITS FALSE NEIGHBOUR: 'it returns false'. Refute it at one input. -/
def fnDictSetScriptMatchesOrderedModelWrong : ChangeSpec := { name := "fnDictSetScriptMatchesOrderedModel", fn := fun _ => fun
  | [d1, d2] => { results := [.lit (.bool false)], args := [d1, d2] }
  | _ => none }
def FnDictSetScriptMatchesOrderedModelWrongFalsely : Prop := fnDictSetScriptMatchesOrderedModelRow.holds Try.pinned (OpenSpec.ofChange fnDictSetScriptMatchesOrderedModelWrong)

/-- 'zzlaws_internal_render_b1.FnDictSetLastWriteWinsKeepsPlace': WHATEVER THE INPUT: true; the input reads as it did. -/
def fnDictSetLastWriteWinsKeepsPlaceSpec : ChangeSpec := { name := "fnDictSetLastWriteWinsKeepsPlace", fn := fun _ => fun
  | [d1, d2, d3, d4, d5] => { results := [.lit (.bool true)], args := [d1, d2, d3, d4, d5] }
  | _ => none }
def fnDictSetLastWriteWinsKeepsPlaceRow : OpenClaim := { program := "qxb6618885a", sum := "4391e6128427ca607863ea1433c204b0baed7bbe2702bbf689e03f1b8b22a094", func := "example.com/moldwright/moldwright/zzlaws_internal_render_b1.FnDictSetLastWriteWinsKeepsPlace", spec := "fnDictSetLastWriteWinsKeepsPlace", apart := false }
def FnDictSetLastWriteWinsKeepsPlaceSaid : Prop := fnDictSetLastWriteWinsKeepsPlaceRow.holds Try.pinned (OpenSpec.ofChange fnDictSetLastWriteWinsKeepsPlaceSpec)

/-- ITS FALSE NEIGHBOUR: 'it returns false'. Refute it at one input. -/
def fnDictSetLastWriteWinsKeepsPlaceWrong : ChangeSpec := { name := "fnDictSetLastWriteWinsKeepsPlace", fn := fun _ => fun
  | [d1, d2, d3, d4, d5] => { results := [.lit (.bool false)], args := [d1, d2, d3, d4, d5] }
  | _ => none }
def FnDictSetLastWriteWinsKeepsPlaceWrongFalsely : Prop := fnDictSetLastWriteWinsKeepsPlaceRow.holds Try.pinned (OpenSpec.ofChange fnDictSetLastWriteWinsKeepsPlaceWrong)

end Rows
end Go.Proofs.Qxb6618885a
