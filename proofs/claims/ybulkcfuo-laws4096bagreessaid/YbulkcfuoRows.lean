/-
  No cell of these rows narrows 'for every input' (looked for: loops, veiled, ifaces, maps, wideKeys, modest, calm, conditions, laid).
  DERIVED. THE GIVEN ROWS OF THIS SEAT. 1 by the template 'for every input the law returns true; each argument reads behind the call as it read before'; 0 by the template 'total and deterministic' (their statements: YbulkcfuoTotals.lean).
  GIVEN WITH THE SEED: the statements are not yours to turn. If you find one false, say at which input.
  Laid BY PROGRAM, IN A SANDBOX (cutbox-rows.mjs): the forced cells as the released guide's own fill.sh prints them over the translation 26a560538344ea4c… (all of the seat's roots in one cut). By AI agents, Wed Nov 11 2026. No macro, syntax, notation, axiom, sorry.
-/
import Derived.Test.YbulkcfuoChecked
import GoSem.Claim
import GoSem.ClaimJoined
import GoSem.ClaimMapViews
import Derived.JoinedTies
import Derived.KernelRfl
namespace Go.Proofs.Ybulkcfuo
/- THE CELL 'sum', in the pinned program and in every row, IS THE sha256 OF THE DUMP (.gsa) THAT YbulkcfuoProg.lean LOADS. Nothing in Lean hashes anything: it is a label: what it is worth is what the hold of that sum in a sandbox is worth. -/
noncomputable def Yba.pinned : Pinned := { name := "ybulkcfuo", sum := "26a560538344ea4c014b81303c1c69d519c0c7f49e3e2ce0625b0a73e5009c37", checked := Yba.checked }
namespace Rows
def none {H : Type} : Left H := { results := [], args := [] }

/-- 'text.LawS4096BAgrees': WHATEVER THE INPUT: true; the input reads as it did. -/
def lawS4096BAgreesSpec : ChangeSpec := { name := "lawS4096BAgrees", fn := fun _ => fun
  | [d1, d2] => { results := [.lit (.bool true)], args := [d1, d2] }
  | _ => none }
def lawS4096BAgreesRow : OpenClaim := { program := "ybulkcfuo", sum := "26a560538344ea4c014b81303c1c69d519c0c7f49e3e2ce0625b0a73e5009c37", func := "example.com/zhaomu/zhaomu/pkg/prospectus/internal/text.LawS4096BAgrees", spec := "lawS4096BAgrees", apart := false }
def LawS4096BAgreesSaid : Prop := lawS4096BAgreesRow.holds Yba.pinned (OpenSpec.ofChange lawS4096BAgreesSpec)

/-- ITS FALSE NEIGHBOUR: 'it returns false'. Refute it at one input. -/
def lawS4096BAgreesWrong : ChangeSpec := { name := "lawS4096BAgrees", fn := fun _ => fun
  | [d1, d2] => { results := [.lit (.bool false)], args := [d1, d2] }
  | _ => none }
def LawS4096BAgreesWrongFalsely : Prop := lawS4096BAgreesRow.holds Yba.pinned (OpenSpec.ofChange lawS4096BAgreesWrong)

end Rows
end Go.Proofs.Ybulkcfuo
