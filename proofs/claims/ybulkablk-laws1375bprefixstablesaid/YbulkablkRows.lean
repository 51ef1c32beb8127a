/-
  No cell of these rows narrows 'for every input' (looked for: loops, veiled, ifaces, maps, wideKeys, modest, calm, conditions, laid).
  DERIVED. THE GIVEN ROWS OF THIS SEAT. 2 by the template 'for every input the law returns true; each argument reads behind the call as it read before'; 0 by the template 'total and deterministic' (their statements: YbulkablkTotals.lean).
  GIVEN WITH THE SEED: the statements are not yours to turn. If you find one false, say at which input.
  Laid BY PROGRAM, IN A SANDBOX (cutbox-rows.mjs): the forced cells as the released guide's own fill.sh prints them over the translation c353af5e45c5fcdb… (all of the seat's roots in one cut). By AI agents, Wed Nov 11 2026. No macro, syntax, notation, axiom, sorry.
-/
import Derived.Test.YbulkablkChecked
import GoSem.Claim
import GoSem.ClaimJoined
import GoSem.ClaimMapViews
import Derived.JoinedTies
import Derived.KernelRfl
namespace Go.Proofs.Ybulkablk
/- THE CELL 'sum', in the pinned program and in every row, IS THE sha256 OF THE DUMP (.gsa) THAT YbulkablkProg.lean LOADS. Nothing in Lean hashes anything: it is a label: what it is worth is what the hold of that sum in a sandbox is worth. -/
noncomputable def Yba.pinned : Pinned := { name := "ybulkablk", sum := "c353af5e45c5fcdbe1dfeb7ff8d3bf1047d0afa19df960d44fc2cbf610b34b20", checked := Yba.checked }
namespace Rows
def none {H : Type} : Left H := { results := [], args := [] }

/-- 'tethergrant.LawS1375BFirstUnprintable': WHATEVER THE INPUT: true; the input reads as it did. -/
def lawS1375BFirstUnprintableSpec : ChangeSpec := { name := "lawS1375BFirstUnprintable", fn := fun _ => fun
  | [d] => { results := [.lit (.bool true)], args := [d] }
  | _ => none }
def lawS1375BFirstUnprintableRow : OpenClaim := { program := "ybulkablk", sum := "c353af5e45c5fcdbe1dfeb7ff8d3bf1047d0afa19df960d44fc2cbf610b34b20", func := "tethergrant.example/tethergrant.LawS1375BFirstUnprintable", spec := "lawS1375BFirstUnprintable", apart := false }
def LawS1375BFirstUnprintableSaid : Prop := lawS1375BFirstUnprintableRow.holds Yba.pinned (OpenSpec.ofChange lawS1375BFirstUnprintableSpec)

/-- ITS FALSE NEIGHBOUR: 'it returns false'. Refute it at one input. -/
def lawS1375BFirstUnprintableWrong : ChangeSpec := { name := "lawS1375BFirstUnprintable", fn := fun _ => fun
  | [d] => { results := [.lit (.bool false)], args := [d] }
  | _ => none }
def LawS1375BFirstUnprintableWrongFalsely : Prop := lawS1375BFirstUnprintableRow.holds Yba.pinned (OpenSpec.ofChange lawS1375BFirstUnprintableWrong)

/-- 'tethergrant.LawS1375BPrefixStable': WHATEVER THE INPUT: true; the input reads as it did. -/
def lawS1375BPrefixStableSpec : ChangeSpec := { name := "lawS1375BPrefixStable", fn := fun _ => fun
  | [d1, d2] => { results := [.lit (.bool true)], args := [d1, d2] }
  | _ => none }
def lawS1375BPrefixStableRow : OpenClaim := { program := "ybulkablk", sum := "c353af5e45c5fcdbe1dfeb7ff8d3bf1047d0afa19df960d44fc2cbf610b34b20", func := "tethergrant.example/tethergrant.LawS1375BPrefixStable", spec := "lawS1375BPrefixStable", apart := false }
def LawS1375BPrefixStableSaid : Prop := lawS1375BPrefixStableRow.holds Yba.pinned (OpenSpec.ofChange lawS1375BPrefixStableSpec)

/-- ITS FALSE NEIGHBOUR: 'it returns false'. Refute it at one input. -/
def lawS1375BPrefixStableWrong : ChangeSpec := { name := "lawS1375BPrefixStable", fn := fun _ => fun
  | [d1, d2] => { results := [.lit (.bool false)], args := [d1, d2] }
  | _ => none }
def LawS1375BPrefixStableWrongFalsely : Prop := lawS1375BPrefixStableRow.holds Yba.pinned (OpenSpec.ofChange lawS1375BPrefixStableWrong)

end Rows
end Go.Proofs.Ybulkablk
