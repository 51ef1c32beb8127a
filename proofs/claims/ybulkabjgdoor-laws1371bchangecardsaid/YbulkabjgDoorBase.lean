/-
  WHAT THE WALKS OF THIS SEAT SHARE: a leg's cells; the requests that 'zzs1371bfill' lays; small facts on worlds.
-/
import Derived.Test.YbulkabjgDoorRows
import Derived.WalkKit
import Derived.Laws.OwnMore
import Derived.Laws.Rows
namespace Go.Proofs.YbulkabjgDoor
open Go.RowKit

/-- The cells of a leg (type 39): its mobile, its BSS, its call, its noted controls; all else at nought. -/
abbrev legCells (mob bss : ByteArray) (cb : Nat) (v : Value) : Array Value :=
  #[.string mob, .string bss, .pointer (some ⟨cb, 0, none⟩), .bool false, .int .u8 0, v, .pointer none, .string ⟨#[]⟩, .bool false, .string ⟨#[]⟩, .bool false]

/-- Block b is that leg. -/
def LegAt (w : World) (b : Nat) (mob bss : ByteArray) (cb : Nat) (v : Value) : Prop := w.heap[b]? = some (.cells (legCells mob bss cb v) 39 (0, 0))

theorem LegAt.lt {w : World} {b : Nat} {mob bss : ByteArray} {cb : Nat} {v : Value} (h : LegAt w b mob bss cb v) : b < w.heap.size := (Array.getElem?_eq_some_iff.1 h).1
theorem LegAt.mob {w : World} {b : Nat} {mob bss : ByteArray} {cb : Nat} {v : Value} (h : LegAt w b mob bss cb v) : w.cell? ⟨b, 0, none⟩ = some (.string mob) := by
  rw [cell_of_row w b 0 _ 39 (0, 0) h]; rfl
theorem LegAt.bss {w : World} {b : Nat} {mob bss : ByteArray} {cb : Nat} {v : Value} (h : LegAt w b mob bss cb v) : w.cell? ⟨b, 1, none⟩ = some (.string bss) := by
  rw [cell_of_row w b 1 _ 39 (0, 0) h]; rfl
theorem LegAt.controls {w : World} {b : Nat} {mob bss : ByteArray} {cb : Nat} {v : Value} (h : LegAt w b mob bss cb v) : w.cell? ⟨b, 5, none⟩ = some v := by
  rw [cell_of_row w b 5 _ 39 (0, 0) h]; rfl
theorem LegAt.frozen {w : World} {b : Nat} {mob bss : ByteArray} {cb : Nat} {v : Value} (h : LegAt w b mob bss cb v) (i : Nat) : w.frozen? ⟨b, i, none⟩ = false := by
  unfold LegAt at h
  simp [World.frozen?, h]
theorem LegAt.of_block {w w' : World} {b : Nat} {mob bss : ByteArray} {cb : Nat} {v : Value} (h : LegAt w b mob bss cb v) (e : w'.heap[b]? = w.heap[b]?) : LegAt w' b mob bss cb v := e.trans h
/-- Its noted controls are set. -/
theorem LegAt.set {w : World} {b : Nat} {mob bss : ByteArray} {cb : Nat} {v : Value} (h : LegAt w b mob bss cb v) (v' : Value) : LegAt (w.setCell ⟨b, 5, none⟩ v') b mob bss cb v' := by
  unfold LegAt at h ⊢
  simp [World.setCell, Array.getElem?_modify, h, legCells]

/-- The cells of n requests as 'zzs1371bfill' lays them. -/
def reqs : Nat → List Value
  | 0 => []
  | n + 1 => reqs n ++ [.string ⟨#[]⟩, .string ⟨#[112]⟩]
theorem reqs_length (n : Nat) : (reqs n).length = n * 2 := by
  induction n with
  | zero => rfl
  | succ n ih => simp [reqs, ih]; omega

theorem info68 : (Ybad.prog.info? 68).map (fun i => (i.zero, i.size, i.bytes)) = some (some (.agg #[.string ⟨#[]⟩, .string ⟨#[]⟩]), 2, 32) := by kernel_rfl

/-- What stands of an owned row behind a store into a block below it. -/
theorem ownsRow_setCell_below {w : World} {base : Nat} {e : TypeId} {size : Nat} {v : Value} {n : Nat} {xs : List Value} (h : w.ownsRow base e size v n xs) {b o : Nat} (hb : b < base) (u : Value) :
    (w.setCell ⟨b, o, none⟩ u).ownsRow base e size v n xs := by
  refine ⟨h.1, ?_⟩
  rcases h.2 with hn | ⟨g, cap, cur, hv, hg, hh, rest⟩
  · exact .inl hn
  · refine .inr ⟨g, cap, cur, hv, hg, ?_, rest⟩
    rw [Below.heap_setCell w ⟨b, o, none⟩ u g (by show g ≠ b; omega)]
    exact hh

theorem grownBy_setCell {w w' : World} {b o : Nat} {v : Value} (h : w.grownBy w' (some b)) : w.grownBy (w'.setCell ⟨b, o, none⟩ v) (some b) :=
  ⟨h.os, h.tape, h.output, by simpa [World.setCell] using h.size, fun k hk hne => by
    rw [Below.heap_setCell w' ⟨b, o, none⟩ v k (fun e => hne (by rw [e]))]; exact h.block k hk hne⟩

/-- One round of the filling: an append onto an owned row that lies above the leg, then the store into the leg. -/
theorem fill_step {w wr w1 : World} {b : Nat} {mob bss : ByteArray} {cb k g cap : Nat} {v : Value} {xs : List Value} {o : Obj} (hb : b < w.heap.size)
    (hl : LegAt wr b mob bss cb v) (hown : wr.ownsRow w.heap.size 68 2 v k xs) (hg : w.grownBy wr (some b))
    (hgrow : (wr.alloc o).grownBy w1 v.ownBlock) (hown' : w1.ownsRow w.heap.size 68 2 (.slice (some ⟨g, 0, none⟩) (k + 1) cap) (k + 1) (xs ++ [.string ⟨#[]⟩, .string ⟨#[112]⟩])) :
    LegAt w1 b mob bss cb v ∧ LegAt (w1.setCell ⟨b, 5, none⟩ (.slice (some ⟨g, 0, none⟩) (k + 1) cap)) b mob bss cb (.slice (some ⟨g, 0, none⟩) (k + 1) cap) ∧
    (w1.setCell ⟨b, 5, none⟩ (.slice (some ⟨g, 0, none⟩) (k + 1) cap)).ownsRow w.heap.size 68 2 (.slice (some ⟨g, 0, none⟩) (k + 1) cap) (k + 1) (xs ++ [.string ⟨#[]⟩, .string ⟨#[112]⟩]) ∧
    w.grownBy (w1.setCell ⟨b, 5, none⟩ (.slice (some ⟨g, 0, none⟩) (k + 1) cap)) (some b) := by
  have hne : ∀ j, v.ownBlock = some j → w.heap.size ≤ j := fun j hj => (hown.lt j hj).1
  have hsz := hg.size
  have hblk : ∀ j, j < wr.heap.size → some j ≠ v.ownBlock → w1.heap[j]? = wr.heap[j]? := fun j hj hn => by
    rw [hgrow.block j (by simp; omega) hn, Below.heap_alloc _ _ _ hj]
  have hl1 : LegAt w1 b mob bss cb v := hl.of_block (hblk b hl.lt (fun e => by have := hne b e.symm; omega))
  refine ⟨hl1, hl1.set _, ownsRow_setCell_below hown' hb _, grownBy_setCell ⟨?_, ?_, ?_, ?_, fun j hj hn => ?_⟩⟩
  · rw [hgrow.os]; exact hg.os
  · rw [hgrow.tape]; exact hg.tape
  · rw [hgrow.output]; exact hg.output
  · have := hgrow.size; simp at this; omega
  · rw [hblk j (by omega) (fun e => by have := hne j e.symm; omega)]; exact hg.block j hj hn

end Go.Proofs.YbulkabjgDoor
