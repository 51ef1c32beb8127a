/-
  No cell of these rows narrows 'for every input' (looked for: loops, veiled, ifaces, maps, wideKeys, modest, calm, conditions, laid).
  DERIVED. THE GIVEN ROWS OF THIS SEAT. 2 by the template 'for every input the law returns true; each argument reads behind the call as it read before'; 0 by the template 'total and deterministic' (their statements: YbulkabgoTotals.lean).
  GIVEN WITH THE SEED: the statements are not yours to turn. If you find one false, say at which input.
  Laid BY PROGRAM, IN A SANDBOX (cutbox-rows.mjs): the forced cells as the released guide's own fill.sh prints them over the translation a6259d62d7ad2a23… (all of the seat's roots in one cut). By AI agents, Wed Nov 11 2026. No macro, syntax, notation, axiom, sorry.
-/
import Derived.Test.YbulkabgoChecked
import GoSem.Claim
import GoSem.ClaimJoined
import GoSem.ClaimMapViews
import Derived.JoinedTies
import Derived.KernelRfl
namespace Go.Proofs.Ybulkabgo
/- THE CELL 'sum', in the pinned program and in every row, IS THE sha256 OF THE DUMP (.gsa) THAT YbulkabgoProg.lean LOADS. Nothing in Lean hashes anything: it is a label: what it is worth is what the hold of that sum in a sandbox is worth. -/
noncomputable def Yba.pinned : Pinned := { name := "ybulkabgo", sum := "a6259d62d7ad2a232144305884bd70f886ee4668c1e098e69d1249702286de66", checked := Yba.checked }
namespace Rows
def none {H : Type} : Left H := { results := [], args := [] }

/-- 'labelwright.LawS1366BTable': WHATEVER THE INPUT: true; the input reads as it did. -/
def lawS1366BTableSpec : ChangeSpec := { name := "lawS1366BTable", fn := fun _ => fun
  | [d] => { results := [.lit (.bool true)], args := [d] }
  | _ => none }
def lawS1366BTableRow : OpenClaim := { program := "ybulkabgo", sum := "a6259d62d7ad2a232144305884bd70f886ee4668c1e098e69d1249702286de66", func := "example.com/labelwright/labelwright.LawS1366BTable", spec := "lawS1366BTable", apart := false }
def LawS1366BTableSaid : Prop := lawS1366BTableRow.holds Yba.pinned (OpenSpec.ofChange lawS1366BTableSpec)

/-- ITS FALSE NEIGHBOUR: 'it returns false'. Refute it at one input. -/
def lawS1366BTableWrong : ChangeSpec := { name := "lawS1366BTable", fn := fun _ => fun
  | [d] => { results := [.lit (.bool false)], args := [d] }
  | _ => none }
def LawS1366BTableWrongFalsely : Prop := lawS1366BTableRow.holds Yba.pinned (OpenSpec.ofChange lawS1366BTableWrong)

/-- 'labelwright.LawS1366BOrder': WHATEVER THE INPUT: true; the input reads as it did. -/
def lawS1366BOrderSpec : ChangeSpec := { name := "lawS1366BOrder", fn := fun _ => fun
  | [d1, d2] => { results := [.lit (.bool true)], args := [d1, d2] }
  | _ => none }
def lawS1366BOrderRow : OpenClaim := { program := "ybulkabgo", sum := "a6259d62d7ad2a232144305884bd70f886ee4668c1e098e69d1249702286de66", func := "example.com/labelwright/labelwright.LawS1366BOrder", spec := "lawS1366BOrder", apart := false }
def LawS1366BOrderSaid : Prop := lawS1366BOrderRow.holds Yba.pinned (OpenSpec.ofChange lawS1366BOrderSpec)

/-- ITS FALSE NEIGHBOUR: 'it returns false'. Refute it at one input. -/
def lawS1366BOrderWrong : ChangeSpec := { name := "lawS1366BOrder", fn := fun _ => fun
  | [d1, d2] => { results := [.lit (.bool false)], args := [d1, d2] }
  | _ => none }
def LawS1366BOrderWrongFalsely : Prop := lawS1366BOrderRow.holds Yba.pinned (OpenSpec.ofChange lawS1366BOrderWrong)

end Rows
end Go.Proofs.Ybulkabgo
