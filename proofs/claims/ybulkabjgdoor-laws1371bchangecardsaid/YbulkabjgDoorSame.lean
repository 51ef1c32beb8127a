/-
  Two answers of the same cells are the same.
-/
import Derived.Test.YbulkabjgDoorTail
import Derived.WalkLawsBesides
namespace Go.Proofs.YbulkabjgDoor
open Go.RowKit
set_option maxRecDepth 100000 in
set_option maxHeartbeats 1000000 in
theorem out_same (W : World) (bo mo : ByteArray) (ctl : Int) : (binOp .neq 66 (.agg (outCells bo mo ctl)) (.agg (outCells bo mo ctl))).run Ybad.prog W = .ok (.bool false) W := by
  go_simp
end Go.Proofs.YbulkabjgDoor
