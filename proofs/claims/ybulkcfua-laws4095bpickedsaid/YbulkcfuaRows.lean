/-
  No cell of these rows narrows 'for every input' (looked for: loops, veiled, ifaces, maps, wideKeys, modest, calm, conditions, laid).
  DERIVED. THE GIVEN ROWS OF THIS SEAT. 2 by the template 'for every input the law returns true; each argument reads behind the call as it read before'; 0 by the template 'total and deterministic' (their statements: YbulkcfuaTotals.lean).
  GIVEN WITH THE SEED: the statements are not yours to turn. If you find one false, say at which input.
  Laid BY PROGRAM, IN A SANDBOX (cutbox-rows.mjs): the forced cells as the released guide's own fill.sh prints them over the translation 66f1c2dc89bd2e53… (all of the seat's roots in one cut). By AI agents, Wed Nov 11 2026. No macro, syntax, notation, axiom, sorry.
-/
import Derived.Test.YbulkcfuaChecked
import GoSem.Claim
import GoSem.ClaimJoined
import GoSem.ClaimMapViews
import Derived.JoinedTies
import Derived.KernelRfl
namespace Go.Proofs.Ybulkcfua
/- THE CELL 'sum', in the pinned program and in every row, IS THE sha256 OF THE DUMP (.gsa) THAT YbulkcfuaProg.lean LOADS. Nothing in Lean hashes anything: it is a label: what it is worth is what the hold of that sum in a sandbox is worth. -/
noncomputable def Yba.pinned : Pinned := { name := "ybulkcfua", sum := "66f1c2dc89bd2e5304d09cc7af068ba375e47ed0993bc61f72441c4c8e7c8482", checked := Yba.checked }
namespace Rows
def none {H : Type} : Left H := { results := [], args := [] }

/-- 'participant.LawS4095BFirstMissing': WHATEVER THE INPUT: true; the input reads as it did. -/
def lawS4095BFirstMissingSpec : ChangeSpec := { name := "lawS4095BFirstMissing", fn := fun _ => fun
  | [d1, d2] => { results := [.lit (.bool true)], args := [d1, d2] }
  | _ => none }
def lawS4095BFirstMissingRow : OpenClaim := { program := "ybulkcfua", sum := "66f1c2dc89bd2e5304d09cc7af068ba375e47ed0993bc61f72441c4c8e7c8482", func := "example.com/vestline/vestline/pkg/participant.LawS4095BFirstMissing", spec := "lawS4095BFirstMissing", apart := false }
def LawS4095BFirstMissingSaid : Prop := lawS4095BFirstMissingRow.holds Yba.pinned (OpenSpec.ofChange lawS4095BFirstMissingSpec)

/-- ITS FALSE NEIGHBOUR: 'it returns false'. Refute it at one input. -/
def lawS4095BFirstMissingWrong : ChangeSpec := { name := "lawS4095BFirstMissing", fn := fun _ => fun
  | [d1, d2] => { results := [.lit (.bool false)], args := [d1, d2] }
  | _ => none }
def LawS4095BFirstMissingWrongFalsely : Prop := lawS4095BFirstMissingRow.holds Yba.pinned (OpenSpec.ofChange lawS4095BFirstMissingWrong)

/-- 'participant.LawS4095BPicked': WHATEVER THE INPUT: true; the input reads as it did. -/
def lawS4095BPickedSpec : ChangeSpec := { name := "lawS4095BPicked", fn := fun _ => fun
  | [d1, d2] => { results := [.lit (.bool true)], args := [d1, d2] }
  | _ => none }
def lawS4095BPickedRow : OpenClaim := { program := "ybulkcfua", sum := "66f1c2dc89bd2e5304d09cc7af068ba375e47ed0993bc61f72441c4c8e7c8482", func := "example.com/vestline/vestline/pkg/participant.LawS4095BPicked", spec := "lawS4095BPicked", apart := false }
def LawS4095BPickedSaid : Prop := lawS4095BPickedRow.holds Yba.pinned (OpenSpec.ofChange lawS4095BPickedSpec)

/-- ITS FALSE NEIGHBOUR: 'it returns false'. Refute it at one input. -/
def lawS4095BPickedWrong : ChangeSpec := { name := "lawS4095BPicked", fn := fun _ => fun
  | [d1, d2] => { results := [.lit (.bool false)], args := [d1, d2] }
  | _ => none }
def LawS4095BPickedWrongFalsely : Prop := lawS4095BPickedRow.holds Yba.pinned (OpenSpec.ofChange lawS4095BPickedWrong)

end Rows
end Go.Proofs.Ybulkcfua
