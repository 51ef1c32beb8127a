/-
  THE LAW's CODE, TAKEN APART: what is left of a body behind its first k statements; the answers of the table of controls.
-/
import Derived.Test.YbulkabjgDoorLaw1
namespace Go.Proofs.YbulkabjgDoor
open Go.RowKit

/-- What is left of a row of statements behind the first k. -/
def dropSeq : Nat → Code → Code
  | 0, c => c
  | k + 1, .seq _ c => dropSeq k c
  | _ + 1, c => c

/-- The control that the table gives for a change; 0 where it has none. -/
def ctlOf (ch : ByteArray) : Int :=
  if ch.toList = [114, 101, 108, 101, 97, 115, 101, 45, 102, 111, 114, 45, 104, 97, 110, 100, 111, 118, 101, 114] then 4
  else if ch.toList = [100, 108, 45, 100, 97, 116, 97, 45, 97, 102, 116, 101, 114, 45, 104, 97, 110, 100, 111, 118, 101, 114] then 5
  else if ch.toList = [114, 101, 108, 101, 97, 115, 101] then 3 else 0
/-- Whether the table knows the change. -/
def knownB (ch : ByteArray) : Bool :=
  decide (ch.toList = [114, 101, 108, 101, 97, 115, 101, 45, 102, 111, 114, 45, 104, 97, 110, 100, 111, 118, 101, 114] ∨ ch.toList = [100, 108, 45, 100, 97, 116, 97, 45, 97, 102, 116, 101, 114, 45, 104, 97, 110, 100, 111, 118, 101, 114] ∨ ch.toList = [114, 101, 108, 101, 97, 115, 101])

/-- What the law is told of the table: where it lies, and that it answers so. -/
structure TableAt (w : World) (gb : Nat) : Prop where
  cell : w.cell? ⟨0, 0, none⟩ = some (.map (some gb))
  lt : gb < w.heap.size
  pos : 0 < w.heap.size
  look : ∀ (ch : ByteArray) (W' : World), ch.size ≤ maxLen → W'.heap[gb]? = w.heap[gb]? → (Instr.lookup 71 (.map (some gb)) (.string ch) true).run Ybad.prog W' = .ok (.tuple #[.int .u8 (ctlOf ch), .bool (knownB ch)]) W'

end Go.Proofs.YbulkabjgDoor
