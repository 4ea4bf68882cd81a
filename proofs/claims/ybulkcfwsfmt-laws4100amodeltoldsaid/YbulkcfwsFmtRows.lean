/-
  NARROWER THAN 'FOR EVERY INPUT', by the rows' own cells (each row's printed sentence says how): LawS4100AModel: ifaces, laid.
  DERIVED. THE GIVEN ROWS OF THIS SEAT. 1 by the template 'for every input the law returns true; each argument reads behind the call as it read before'; 0 by the template 'total and deterministic' (their statements: YbulkcfwsFmtTotals.lean).
  GIVEN WITH THE SEED: the statements are not yours to turn. If you find one false, say at which input.
  Laid BY PROGRAM, IN A SANDBOX (cutbox-rows.mjs): the forced cells as the released guide's own fill.sh prints them over the translation a771a48d50498dba… (all of the seat's roots in one cut). By AI agents, Wed Nov 11 2026. No macro, syntax, notation, axiom, sorry.
-/
import Derived.Test.YbulkcfwsFmtChecked
import GoSem.Claim
import GoSem.ClaimJoined
import GoSem.ClaimMapViews
import Derived.JoinedTies
import Derived.KernelRfl
namespace Go.Proofs.YbulkcfwsFmt
/- THE CELL 'sum', in the pinned program and in every row, IS THE sha256 OF THE DUMP (.gsa) THAT YbulkcfwsFmtProg.lean LOADS. Nothing in Lean hashes anything: it is a label: what it is worth is what the hold of that sum in a sandbox is worth. -/
noncomputable def Ybaf.pinned : Pinned := { name := "ybulkcfwsfmt", sum := "a771a48d50498dbaf9c33a72cdbbcaa3af75d9617225cacd14e862ce92f8f149", checked := Ybaf.checked }
namespace Rows
def none {H : Type} : Left H := { results := [], args := [] }

/- WHAT THE LISTED PACKAGE-LEVEL VARIABLES READ AS WHEN THE CALL BEGINS. Each datum BY PROGRAM (the guide's laid-datum.mjs) off the statement by which the dump's own 'gosem.cut.vars' lays the variable. In a bare row this is a premise. The card (YbulkcfwsFmtCards.lean) ties it to the program's text. -/
def laid_example_com_kindred_ledger_kindred_ledger_register_errPast {H : Type} : DataW H := .iface "*errors.errorString" (.ptr (.agg [.lit (.string [97, 32, 114, 101, 103, 105, 115, 116, 101, 114, 32, 97, 115, 32, 105, 116, 32, 115, 116, 111, 111, 100, 32, 98, 101, 102, 111, 114, 101, 32, 108, 97, 116, 101, 114, 32, 99, 104, 97, 110, 103, 101, 115, 32, 116, 97, 107, 101, 115, 32, 110, 111, 32, 99, 104, 97, 110, 103, 101])]))

/-- 'register.LawS4100AModel': WHATEVER THE INPUT: true; the input reads as it did. -/
def lawS4100AModelSpec : ChangeSpec := { name := "lawS4100AModel", vars := ["example.com/kindred-ledger/kindred-ledger/register.errPast"], fn := fun _ => fun
  | [d1, d2, d3, d4, d5, d6, g1] => { results := [.lit (.bool true)], args := [d1, d2, d3, d4, d5, d6], vars := [g1] }
  | _ => none }
def lawS4100AModelRow : OpenClaim := { program := "ybulkcfwsfmt", sum := "a771a48d50498dbaf9c33a72cdbbcaa3af75d9617225cacd14e862ce92f8f149", func := "example.com/kindred-ledger/kindred-ledger/register.LawS4100AModel", spec := "lawS4100AModel", stops := ["fmt.errorf"], inPlace := ["fmt.errorf"], unfollowed := true, recurses := true, named := ["example.com/kindred-ledger/kindred-ledger/register.errPast"], ifaces := true, apart := false, laid := [("example.com/kindred-ledger/kindred-ledger/register.errPast", laid_example_com_kindred_ledger_kindred_ledger_register_errPast)] }
/-- NO THEOREM (fmt's text is open here; it may be false): for the released tool's asking of the row's closed facts alone. THE STATEMENT IS 'LawS4100AModelToldSaid' (YbulkcfwsFmtCards.lean). -/
def LawS4100AModelFormAsk : Prop := lawS4100AModelRow.holds Ybaf.pinned (OpenSpec.ofChange lawS4100AModelSpec)

/-- ITS FALSE NEIGHBOUR: 'it returns false'. Refute it at one input. -/
def lawS4100AModelWrong : ChangeSpec := { name := "lawS4100AModel", vars := ["example.com/kindred-ledger/kindred-ledger/register.errPast"], fn := fun _ => fun
  | [d1, d2, d3, d4, d5, d6, g1] => { results := [.lit (.bool false)], args := [d1, d2, d3, d4, d5, d6], vars := [g1] }
  | _ => none }
def LawS4100AModelWrongFormAsk : Prop := lawS4100AModelRow.holds Ybaf.pinned (OpenSpec.ofChange lawS4100AModelWrong)

end Rows
end Go.Proofs.YbulkcfwsFmt
