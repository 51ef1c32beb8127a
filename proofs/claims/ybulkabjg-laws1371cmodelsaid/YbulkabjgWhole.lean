/-
  TWO LAWS at a plain region's list of operations, for whatever number of cells: a whole struct stored into the block that was made last; a whole struct loaded out of a block that is known whole. (The walk's own way opens such a load into one load a cell; at 26 cells the kernel does not come back from the term.)
-/
import Derived.Test.YbulkabjgRows
import Derived.WalkKit
import Derived.Deep.WholeRow
namespace Go.Proofs.Ybulkabjg
open Go.RowKit

section
variable {P : Program} {ops : Array Oper} {rest : List Oper} {op : Oper} {a : Act} {w : World} {Q : Exit → Act → World → Prop}

theorem wp_store_new (c c' : Array Value) (ty : TypeId) (b : Nat) (x y : Operand) (hgd : op.guard = none) (ho : op.op = .store ty x y) (hb : b = w.heap.size) (hx : a.eval x = .pointer (some ⟨b, 0, none⟩)) (hy : a.eval y = .agg c')
    (hi : (P.info? ty).map (·.size) = some c'.size) (hc : c.size = c'.size) (h1 : c'.all (·.oneCell') = true)
    (h : wpList P ops Q rest (a.put op.dst undef) (w.alloc (.cells c' ty))) : wpList P ops Q (op :: rest) a (w.alloc (.cells c ty)) := by
  subst hb
  refine wpList_plain hgd fun _ hK => ?_
  unfold Oper.wp execOp
  simp only [ho, hx, hy, Sem.run_bind, Sem.run_pure, Result.andThen_ok, run_storeAt_new w ty c c' hi hc h1]
  exact hK _ _ h

theorem wp_load_whole (c : Array Value) (ty : TypeId) (d : TypeDesc) (b : Nat) (fr : Nat × Nat) (x : Operand) (hgd : op.guard = none) (ho : op.op = .load ty x) (hx : a.eval x = .pointer (some ⟨b, 0, none⟩))
    (hw : w.heap[b]? = some (.cells c ty fr)) (hu : P.underlying ty = some d) (hd : (match d with | .struct _ | .array _ _ => true | _ => false) = true) (hi : (P.info? ty).map (·.size) = some c.size)
    (h : wpList P ops Q rest (a.put op.dst (.agg c)) w) : wpList P ops Q (op :: rest) a w := by
  refine wpList_plain hgd fun _ hK => ?_
  unfold Oper.wp execOp
  simp only [ho, hx, Instr.loadAt, Instr.sureAddr, Sem.run_bind, Sem.run_pure, Result.andThen_ok, run_loadVar_row w b ty ty c fr d hw hu hd hi]
  exact hK _ _ h
end

theorem heap_mid (w : World) (o1 o2 o3 : Obj) : (((w.alloc o1).alloc o2).alloc o3).heap[w.heap.size + 1]? = some o2 := by
  show (((w.heap.push o1).push o2).push o3)[w.heap.size + 1]? = some o2
  have e1 : ¬ w.heap.size + 1 = w.heap.size + 1 + 1 := by omega
  rw [Array.getElem?_push, Array.size_push, Array.size_push, if_neg e1, Array.getElem?_push, Array.size_push, if_pos rfl]

theorem size50 : (Yba.prog.info? 50).map (·.size) = some 26 := by kernel_rfl

end Go.Proofs.Ybulkabjg
