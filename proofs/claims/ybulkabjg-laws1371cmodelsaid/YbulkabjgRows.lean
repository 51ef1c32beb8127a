/-
  No cell of these rows narrows 'for every input' (looked for: loops, veiled, ifaces, maps, wideKeys, modest, calm, conditions, laid).
  DERIVED. THE GIVEN ROWS OF THIS SEAT. 2 by the template 'for every input the law returns true; each argument reads behind the call as it read before'; 0 by the template 'total and deterministic' (their statements: YbulkabjgTotals.lean).
  GIVEN WITH THE SEED: the statements are not yours to turn. If you find one false, say at which input.
  Laid BY PROGRAM, IN A SANDBOX (cutbox-rows.mjs): the forced cells as the released guide's own fill.sh prints them over the translation 01de5734e7de47c9… (all of the seat's roots in one cut). By AI agents, Wed Nov 11 2026. No macro, syntax, notation, axiom, sorry.
-/
import Derived.Test.YbulkabjgChecked
import GoSem.Claim
import GoSem.ClaimJoined
import GoSem.ClaimMapViews
import Derived.JoinedTies
import Derived.KernelRfl
namespace Go.Proofs.Ybulkabjg
/- THE CELL 'sum', in the pinned program and in every row, IS THE sha256 OF THE DUMP (.gsa) THAT YbulkabjgProg.lean LOADS. Nothing in Lean hashes anything: it is a label: what it is worth is what the hold of that sum in a sandbox is worth. -/
noncomputable def Yba.pinned : Pinned := { name := "ybulkabjg", sum := "01de5734e7de47c927c869ceb6a0bd13a9b4ded17b54aa0a8ae7bf35fb8267f2", checked := Yba.checked }
namespace Rows
def none {H : Type} : Left H := { results := [], args := [] }

/-- 'inode.LawS1371CModel': WHATEVER THE INPUT: true; the input reads as it did. -/
def lawS1371CModelSpec : ChangeSpec := { name := "lawS1371CModel", fn := fun _ => fun
  | [d1, d2, d3, d4, d5, d6, d7, d8, d9, d10, d11, d12] => { results := [.lit (.bool true)], args := [d1, d2, d3, d4, d5, d6, d7, d8, d9, d10, d11, d12] }
  | _ => none }
def lawS1371CModelRow : OpenClaim := { program := "ybulkabjg", sum := "01de5734e7de47c927c869ceb6a0bd13a9b4ded17b54aa0a8ae7bf35fb8267f2", func := "example.com/shortloop/shortloop/inode.LawS1371CModel", spec := "lawS1371CModel", apart := false }
def LawS1371CModelSaid : Prop := lawS1371CModelRow.holds Yba.pinned (OpenSpec.ofChange lawS1371CModelSpec)

/-- ITS FALSE NEIGHBOUR: 'it returns false'. Refute it at one input. -/
def lawS1371CModelWrong : ChangeSpec := { name := "lawS1371CModel", fn := fun _ => fun
  | [d1, d2, d3, d4, d5, d6, d7, d8, d9, d10, d11, d12] => { results := [.lit (.bool false)], args := [d1, d2, d3, d4, d5, d6, d7, d8, d9, d10, d11, d12] }
  | _ => none }
def LawS1371CModelWrongFalsely : Prop := lawS1371CModelRow.holds Yba.pinned (OpenSpec.ofChange lawS1371CModelWrong)

/-- 'inode.LawS1371COnce': WHATEVER THE INPUT: true; the input reads as it did. -/
def lawS1371COnceSpec : ChangeSpec := { name := "lawS1371COnce", fn := fun _ => fun
  | [d1, d2, d3, d4, d5, d6] => { results := [.lit (.bool true)], args := [d1, d2, d3, d4, d5, d6] }
  | _ => none }
def lawS1371COnceRow : OpenClaim := { program := "ybulkabjg", sum := "01de5734e7de47c927c869ceb6a0bd13a9b4ded17b54aa0a8ae7bf35fb8267f2", func := "example.com/shortloop/shortloop/inode.LawS1371COnce", spec := "lawS1371COnce", apart := false }
def LawS1371COnceSaid : Prop := lawS1371COnceRow.holds Yba.pinned (OpenSpec.ofChange lawS1371COnceSpec)

/-- ITS FALSE NEIGHBOUR: 'it returns false'. Refute it at one input. -/
def lawS1371COnceWrong : ChangeSpec := { name := "lawS1371COnce", fn := fun _ => fun
  | [d1, d2, d3, d4, d5, d6] => { results := [.lit (.bool false)], args := [d1, d2, d3, d4, d5, d6] }
  | _ => none }
def LawS1371COnceWrongFalsely : Prop := lawS1371COnceRow.holds Yba.pinned (OpenSpec.ofChange lawS1371COnceWrong)

end Rows
end Go.Proofs.Ybulkabjg
