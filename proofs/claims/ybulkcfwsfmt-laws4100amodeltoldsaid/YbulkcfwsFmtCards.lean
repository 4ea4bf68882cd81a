/-
  DERIVED. GIVEN WITH THE SEED: THE CARDS: each row of YbulkcfwsFmtRows.lean that lists a variable, with what it lists TIED to the program's text (the seventh form; the later family's looks); each row that meets fmt, with fmt's text TOLD by the authors' own Lean function (tested against real Go, not proved from fmt's source: count such statements apart). THE CARD IS WHAT COUNTS. Prove the row's statement (the work); the ties are given (YbulkcfwsFmtTie.lean); close each card by the builder's one call (the guide's Derived/Test/ToyasCard.lean, 'card_holds'). Laid BY PROGRAM, IN A SANDBOX (cutbox-door.mjs). By AI agents, Wed Nov 11 2026. No macro, syntax, notation, axiom, sorry.
-/
import Derived.Test.YbulkcfwsFmtRows
import GoSem.ClaimSeven
namespace Go.Proofs.YbulkcfwsFmt
namespace Rows

/-- THE TOLD AND TIED CARD OF 'register.LawS4100AModel'. -/
def lawS4100AModelCard : Claim7 := { stood := { row := lawS4100AModelRow, standIns := [], harness := (true, "4764bd9a1290bbfbcd43ef703226ab8568372841e22f18e595c383c361147d5b"), looks := false }, told := true, laidByText := true, laidKinds := [.sentinel], laidTests := true, laidLooks := .later, goes := false }
def LawS4100AModelToldSaid : Prop := Claim7.holds Ybaf.pinned (.plain (OpenSpec.ofChange lawS4100AModelSpec)) lawS4100AModelCard
/-- ITS FALSE NEIGHBOUR. Refute it at one input. -/
def LawS4100AModelToldWrongFalsely : Prop := Claim7.holds Ybaf.pinned (.plain (OpenSpec.ofChange lawS4100AModelWrong)) lawS4100AModelCard
end Rows
end Go.Proofs.YbulkcfwsFmt
