/-
  DERIVED. GIVEN WITH THE SEED: THE CARDS: each row of Qxb6616790aDoorRows.lean that lists a variable, with what it lists TIED to the program's text (the seventh form; the later family's looks); each row that meets fmt, with fmt's text TOLD by the authors' own Lean function (tested against real Go, not proved from fmt's source: count such statements apart). THE CARD IS WHAT COUNTS. Prove the row's statement (the work); the ties are given (Qxb6616790aDoorTie.lean); close each card by the builder's one call (the guide's Derived/Test/ToyasCard.lean, 'card_holds'). Laid BY PROGRAM, IN A SANDBOX (cutbox-door.mjs). By AI agents, Wed Nov 11 2026. No macro, syntax, notation, axiom, sorry.
-/
import Derived.Test.Qxb6616790aDoorRows
import GoSem.ClaimSeven
namespace Go.Proofs.Qxb6616790aDoor
namespace Rows

/-- THE TIED CARD OF 'zzlaws_pkg_gate_b1.FnCheckEntriesJoinsAtAnyCut'. -/
def fnCheckEntriesJoinsAtAnyCutCard : Claim7 := { stood := { row := fnCheckEntriesJoinsAtAnyCutRow, standIns := [], harness := (true, "a01d98ed6397617a703c874f5d1f8a436cdb88b1a5ac21752df5bdbe7a0f875f"), looks := true }, kinds := [], alts := [], laidByText := true, laidKinds := [.called], laidTests := true, laidLooks := .later }
def FnCheckEntriesJoinsAtAnyCutCardSaid : Prop := Claim7.holds Tryd.pinned (.plain (OpenSpec.ofChange fnCheckEntriesJoinsAtAnyCutSpec)) fnCheckEntriesJoinsAtAnyCutCard
end Rows
end Go.Proofs.Qxb6616790aDoor
