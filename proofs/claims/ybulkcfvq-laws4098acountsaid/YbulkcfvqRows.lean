/-
  No cell of these rows narrows 'for every input' (looked for: loops, veiled, ifaces, maps, wideKeys, modest, calm, conditions, laid).
  DERIVED. THE GIVEN ROWS OF THIS SEAT. 4 by the template 'for every input the law returns true; each argument reads behind the call as it read before'; 0 by the template 'total and deterministic' (their statements: YbulkcfvqTotals.lean).
  GIVEN WITH THE SEED: the statements are not yours to turn. If you find one false, say at which input.
  Laid BY PROGRAM, IN A SANDBOX (cutbox-rows.mjs): the forced cells as the released guide's own fill.sh prints them over the translation 3efe13e151d5ddb7… (all of the seat's roots in one cut). By AI agents, Wed Nov 11 2026. No macro, syntax, notation, axiom, sorry.
-/
import Derived.Test.YbulkcfvqChecked
import GoSem.Claim
import GoSem.ClaimJoined
import GoSem.ClaimMapViews
import Derived.JoinedTies
import Derived.KernelRfl
namespace Go.Proofs.Ybulkcfvq
/- THE CELL 'sum', in the pinned program and in every row, IS THE sha256 OF THE DUMP (.gsa) THAT YbulkcfvqProg.lean LOADS. Nothing in Lean hashes anything: it is a label: what it is worth is what the hold of that sum in a sandbox is worth. -/
noncomputable def Yba.pinned : Pinned := { name := "ybulkcfvq", sum := "3efe13e151d5ddb7929e9e94b4afa12c9289385bdc9343a53fc1ddb45e2e78f7", checked := Yba.checked }
namespace Rows
def none {H : Type} : Left H := { results := [], args := [] }

/-- 'caret.LawS4098ACount': WHATEVER THE INPUT: true; the input reads as it did. -/
def lawS4098ACountSpec : ChangeSpec := { name := "lawS4098ACount", fn := fun _ => fun
  | [d] => { results := [.lit (.bool true)], args := [d] }
  | _ => none }
def lawS4098ACountRow : OpenClaim := { program := "ybulkcfvq", sum := "3efe13e151d5ddb7929e9e94b4afa12c9289385bdc9343a53fc1ddb45e2e78f7", func := "example.com/caret/caret.LawS4098ACount", spec := "lawS4098ACount", apart := false }
def LawS4098ACountSaid : Prop := lawS4098ACountRow.holds Yba.pinned (OpenSpec.ofChange lawS4098ACountSpec)

/-- ITS FALSE NEIGHBOUR: 'it returns false'. Refute it at one input. -/
def lawS4098ACountWrong : ChangeSpec := { name := "lawS4098ACount", fn := fun _ => fun
  | [d] => { results := [.lit (.bool false)], args := [d] }
  | _ => none }
def LawS4098ACountWrongFalsely : Prop := lawS4098ACountRow.holds Yba.pinned (OpenSpec.ofChange lawS4098ACountWrong)

/-- 'caret.LawS4098BRoundTrip': WHATEVER THE INPUT: true; the input reads as it did. -/
def lawS4098BRoundTripSpec : ChangeSpec := { name := "lawS4098BRoundTrip", fn := fun _ => fun
  | [d1, d2, d3, d4, d5, d6] => { results := [.lit (.bool true)], args := [d1, d2, d3, d4, d5, d6] }
  | _ => none }
def lawS4098BRoundTripRow : OpenClaim := { program := "ybulkcfvq", sum := "3efe13e151d5ddb7929e9e94b4afa12c9289385bdc9343a53fc1ddb45e2e78f7", func := "example.com/caret/caret.LawS4098BRoundTrip", spec := "lawS4098BRoundTrip", apart := false }
def LawS4098BRoundTripSaid : Prop := lawS4098BRoundTripRow.holds Yba.pinned (OpenSpec.ofChange lawS4098BRoundTripSpec)

/-- ITS FALSE NEIGHBOUR: 'it returns false'. Refute it at one input. -/
def lawS4098BRoundTripWrong : ChangeSpec := { name := "lawS4098BRoundTrip", fn := fun _ => fun
  | [d1, d2, d3, d4, d5, d6] => { results := [.lit (.bool false)], args := [d1, d2, d3, d4, d5, d6] }
  | _ => none }
def LawS4098BRoundTripWrongFalsely : Prop := lawS4098BRoundTripRow.holds Yba.pinned (OpenSpec.ofChange lawS4098BRoundTripWrong)

/-- 'caret.LawS4098BOtherSystem': WHATEVER THE INPUT: true; the input reads as it did. -/
def lawS4098BOtherSystemSpec : ChangeSpec := { name := "lawS4098BOtherSystem", fn := fun _ => fun
  | [d1, d2, d3, d4, d5, d6, d7] => { results := [.lit (.bool true)], args := [d1, d2, d3, d4, d5, d6, d7] }
  | _ => none }
def lawS4098BOtherSystemRow : OpenClaim := { program := "ybulkcfvq", sum := "3efe13e151d5ddb7929e9e94b4afa12c9289385bdc9343a53fc1ddb45e2e78f7", func := "example.com/caret/caret.LawS4098BOtherSystem", spec := "lawS4098BOtherSystem", apart := false }
def LawS4098BOtherSystemSaid : Prop := lawS4098BOtherSystemRow.holds Yba.pinned (OpenSpec.ofChange lawS4098BOtherSystemSpec)

/-- ITS FALSE NEIGHBOUR: 'it returns false'. Refute it at one input. -/
def lawS4098BOtherSystemWrong : ChangeSpec := { name := "lawS4098BOtherSystem", fn := fun _ => fun
  | [d1, d2, d3, d4, d5, d6, d7] => { results := [.lit (.bool false)], args := [d1, d2, d3, d4, d5, d6, d7] }
  | _ => none }
def LawS4098BOtherSystemWrongFalsely : Prop := lawS4098BOtherSystemRow.holds Yba.pinned (OpenSpec.ofChange lawS4098BOtherSystemWrong)

/-- 'caret.LawS4098CSortedOnce': WHATEVER THE INPUT: true; the input reads as it did. -/
def lawS4098CSortedOnceSpec : ChangeSpec := { name := "lawS4098CSortedOnce", fn := fun _ => fun
  | [d] => { results := [.lit (.bool true)], args := [d] }
  | _ => none }
def lawS4098CSortedOnceRow : OpenClaim := { program := "ybulkcfvq", sum := "3efe13e151d5ddb7929e9e94b4afa12c9289385bdc9343a53fc1ddb45e2e78f7", func := "example.com/caret/caret.LawS4098CSortedOnce", spec := "lawS4098CSortedOnce", inPlace := ["internal/bytealg.abigen_runtime_cmpstring", "internal/bytealg.IndexByteString", "internal/bytealg.IndexString"], unfollowed := true, recurses := true, named := ["internal/bytealg.MaxLen"], apart := false }
def LawS4098CSortedOnceSaid : Prop := lawS4098CSortedOnceRow.holds Yba.pinned (OpenSpec.ofChange lawS4098CSortedOnceSpec)

/-- ITS FALSE NEIGHBOUR: 'it returns false'. Refute it at one input. -/
def lawS4098CSortedOnceWrong : ChangeSpec := { name := "lawS4098CSortedOnce", fn := fun _ => fun
  | [d] => { results := [.lit (.bool false)], args := [d] }
  | _ => none }
def LawS4098CSortedOnceWrongFalsely : Prop := lawS4098CSortedOnceRow.holds Yba.pinned (OpenSpec.ofChange lawS4098CSortedOnceWrong)

end Rows
end Go.Proofs.Ybulkcfvq
