/-
  NARROWER THAN 'FOR EVERY INPUT', by the rows' own cells (each row's printed sentence says how): LawS1371BChange: maps, laid.
  DERIVED. THE GIVEN ROWS OF THIS SEAT. 1 by the template 'for every input the law returns true; each argument reads behind the call as it read before'; 0 by the template 'total and deterministic' (their statements: YbulkabjgDoorTotals.lean).
  GIVEN WITH THE SEED: the statements are not yours to turn. If you find one false, say at which input.
  Laid BY PROGRAM, IN A SANDBOX (cutbox-rows.mjs): the forced cells as the released guide's own fill.sh prints them over the translation b282c5cc7ce1fb1c… (all of the seat's roots in one cut). By AI agents, Wed Nov 11 2026. No macro, syntax, notation, axiom, sorry.
-/
import Derived.Test.YbulkabjgDoorChecked
import GoSem.Claim
import GoSem.ClaimJoined
import GoSem.ClaimMapViews
import Derived.JoinedTies
import Derived.KernelRfl
namespace Go.Proofs.YbulkabjgDoor
/- THE CELL 'sum', in the pinned program and in every row, IS THE sha256 OF THE DUMP (.gsa) THAT YbulkabjgDoorProg.lean LOADS. Nothing in Lean hashes anything: it is a label: what it is worth is what the hold of that sum in a sandbox is worth. -/
noncomputable def Ybad.pinned : Pinned := { name := "ybulkabjgdoor", sum := "b282c5cc7ce1fb1cc7fd9d73961736e910eee3a18794b333f16628bfe2421a12", checked := Ybad.checked }
namespace Rows
def none {H : Type} : Left H := { results := [], args := [] }

/- WHAT THE LISTED PACKAGE-LEVEL VARIABLES READ AS WHEN THE CALL BEGINS. Each datum BY PROGRAM (the guide's laid-datum.mjs) off the statement by which the dump's own 'gosem.cut.vars' lays the variable. In a bare row this is a premise. The card (YbulkabjgDoorCards.lean) ties it to the program's text. -/
def laid_example_com_shortloop_shortloop_msc_changeControls {H : Type} : DataW H := .map [(.string [100, 108, 45, 100, 97, 116, 97, 45, 97, 102, 116, 101, 114, 45, 104, 97, 110, 100, 111, 118, 101, 114], .lit (.int .u8 5)), (.string [114, 101, 108, 101, 97, 115, 101], .lit (.int .u8 3)), (.string [114, 101, 108, 101, 97, 115, 101, 45, 102, 111, 114, 45, 104, 97, 110, 100, 111, 118, 101, 114], .lit (.int .u8 4))]

/-- 'msc.LawS1371BChange': WHATEVER THE INPUT: true; the input reads as it did. -/
def lawS1371BChangeSpec : ChangeSpec := { name := "lawS1371BChange", vars := ["example.com/shortloop/shortloop/msc.changeControls"], fn := fun _ => fun
  | [d, g1] => { results := [.lit (.bool true)], args := [d], vars := [g1] }
  | _ => none }
def lawS1371BChangeRow : OpenClaim := { program := "ybulkabjgdoor", sum := "b282c5cc7ce1fb1cc7fd9d73961736e910eee3a18794b333f16628bfe2421a12", func := "example.com/shortloop/shortloop/msc.LawS1371BChange", spec := "lawS1371BChange", named := ["example.com/shortloop/shortloop/msc.changeControls"], maps := true, apart := false, laid := [("example.com/shortloop/shortloop/msc.changeControls", laid_example_com_shortloop_shortloop_msc_changeControls)] }
def LawS1371BChangeSaid : Prop := lawS1371BChangeRow.holds Ybad.pinned (OpenSpec.ofChange lawS1371BChangeSpec)

/-- ITS FALSE NEIGHBOUR: 'it returns false'. Refute it at one input. -/
def lawS1371BChangeWrong : ChangeSpec := { name := "lawS1371BChange", vars := ["example.com/shortloop/shortloop/msc.changeControls"], fn := fun _ => fun
  | [d, g1] => { results := [.lit (.bool false)], args := [d], vars := [g1] }
  | _ => none }
def LawS1371BChangeWrongFalsely : Prop := lawS1371BChangeRow.holds Ybad.pinned (OpenSpec.ofChange lawS1371BChangeWrong)

end Rows
end Go.Proofs.YbulkabjgDoor
