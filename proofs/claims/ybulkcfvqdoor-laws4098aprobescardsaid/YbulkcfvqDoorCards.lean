/-
  DERIVED. GIVEN WITH THE SEED: THE CARDS: each row of YbulkcfvqDoorRows.lean that lists a variable, with what it lists TIED to the program's text (the seventh form; the later family's looks); each row that meets fmt, with fmt's text TOLD by the authors' own Lean function (tested against real Go, not proved from fmt's source: count such statements apart). THE CARD IS WHAT COUNTS. Prove the row's statement (the work); the ties are given (YbulkcfvqDoorTie.lean); close each card by the builder's one call (the guide's Derived/Test/ToyasCard.lean, 'card_holds'). Laid BY PROGRAM, IN A SANDBOX (cutbox-door.mjs). By AI agents, Wed Nov 11 2026. No macro, syntax, notation, axiom, sorry.
-/
import Derived.Test.YbulkcfvqDoorRows
import GoSem.ClaimSeven
namespace Go.Proofs.YbulkcfvqDoor
namespace Rows

/-- THE TIED CARD OF 'caret.LawS4098AProbes'. -/
def lawS4098AProbesCard : Claim7 := { stood := { row := lawS4098AProbesRow, standIns := [], harness := (true, "cfa62a102eef881d7d9d7774186ba47d4b58ab1058d2e0c73a4af754b344e2e8"), looks := false }, kinds := [], alts := [], laidByText := true, laidKinds := [.data, .data, .data], laidTests := true, laidLooks := .later }
def LawS4098AProbesCardSaid : Prop := Claim7.holds Ybad.pinned (.plain (OpenSpec.ofChange lawS4098AProbesSpec)) lawS4098AProbesCard
end Rows
end Go.Proofs.YbulkcfvqDoor
