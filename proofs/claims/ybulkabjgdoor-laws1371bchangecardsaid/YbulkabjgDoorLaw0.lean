/-
  WHAT THE LAW's WALK CARRIES: the argument's block.
-/
import Derived.Test.YbulkabjgDoorRelease
import Derived.Test.YbulkabjgDoorFill
import Derived.LaidEqlPtr
namespace Go.Proofs.YbulkabjgDoor
open Go.RowKit

/-- The law's argument. -/
structure In where
  callID : ByteArray
  peer : ByteArray
  sender : ByteArray
  other : ByteArray
  mob : ByteArray
  bss : ByteArray
  mob2 : ByteArray
  bss2 : ByteArray
  raw : ByteArray
  same : Bool
  useP : Bool
  rel : Bool
  legs : Int
  sel : Int
  prior : Int

abbrev inCells (i : In) : Array Value :=
  #[.string i.callID, .string i.peer, .string i.sender, .string i.other, .string i.mob, .string i.bss, .string i.mob2, .string i.bss2, .string i.raw, .bool i.same, .bool i.useP, .bool i.rel, .int .u8 i.legs, .int .u8 i.sel, .int .u8 i.prior]
/-- Block b is the argument. -/
def InAt (w : World) (b : Nat) (i : In) : Prop := w.heap[b]? = some (.cells (inCells i) 23 (0, 0))
section
variable {w w' : World} {b : Nat} {i : In}
theorem InAt.lt (h : InAt w b i) : b < w.heap.size := (Array.getElem?_eq_some_iff.1 h).1
theorem InAt.of_block (h : InAt w b i) (e : w'.heap[b]? = w.heap[b]?) : InAt w' b i := e.trans h
theorem InAt.c0 (h : InAt w b i) : w.cell? ⟨b, 0, none⟩ = some (.string i.callID) := by rw [cell_of_row w b 0 _ 23 (0, 0) h]; rfl
theorem InAt.c1 (h : InAt w b i) : w.cell? ⟨b, 1, none⟩ = some (.string i.peer) := by rw [cell_of_row w b 1 _ 23 (0, 0) h]; rfl
theorem InAt.c2 (h : InAt w b i) : w.cell? ⟨b, 2, none⟩ = some (.string i.sender) := by rw [cell_of_row w b 2 _ 23 (0, 0) h]; rfl
theorem InAt.c3 (h : InAt w b i) : w.cell? ⟨b, 3, none⟩ = some (.string i.other) := by rw [cell_of_row w b 3 _ 23 (0, 0) h]; rfl
theorem InAt.c4 (h : InAt w b i) : w.cell? ⟨b, 4, none⟩ = some (.string i.mob) := by rw [cell_of_row w b 4 _ 23 (0, 0) h]; rfl
theorem InAt.c5 (h : InAt w b i) : w.cell? ⟨b, 5, none⟩ = some (.string i.bss) := by rw [cell_of_row w b 5 _ 23 (0, 0) h]; rfl
theorem InAt.c6 (h : InAt w b i) : w.cell? ⟨b, 6, none⟩ = some (.string i.mob2) := by rw [cell_of_row w b 6 _ 23 (0, 0) h]; rfl
theorem InAt.c7 (h : InAt w b i) : w.cell? ⟨b, 7, none⟩ = some (.string i.bss2) := by rw [cell_of_row w b 7 _ 23 (0, 0) h]; rfl
theorem InAt.c9 (h : InAt w b i) : w.cell? ⟨b, 9, none⟩ = some (.bool i.same) := by rw [cell_of_row w b 9 _ 23 (0, 0) h]; rfl
theorem InAt.c10 (h : InAt w b i) : w.cell? ⟨b, 10, none⟩ = some (.bool i.useP) := by rw [cell_of_row w b 10 _ 23 (0, 0) h]; rfl
theorem InAt.c11 (h : InAt w b i) : w.cell? ⟨b, 11, none⟩ = some (.bool i.rel) := by rw [cell_of_row w b 11 _ 23 (0, 0) h]; rfl
theorem InAt.c12 (h : InAt w b i) : w.cell? ⟨b, 12, none⟩ = some (.int .u8 i.legs) := by rw [cell_of_row w b 12 _ 23 (0, 0) h]; rfl
theorem InAt.c14 (h : InAt w b i) : w.cell? ⟨b, 14, none⟩ = some (.int .u8 i.prior) := by rw [cell_of_row w b 14 _ 23 (0, 0) h]; rfl
end

/-- What stands when the law has chosen its change: the argument's block, one block more. -/
structure Start (w wr : World) (i : In) : Prop where
  arg : InAt wr w.heap.size i
  size : wr.heap.size = w.heap.size + 2
  below : Below w.heap.size w wr

theorem start_of {w : World} {i : In} {o : Obj} : Start w ((w.alloc (.cells (inCells i) 23)).alloc o) i :=
  ⟨by show ((w.heap.push _).push _)[w.heap.size]? = _
      rw [Array.getElem?_push, Array.size_push, if_neg (by omega), Array.getElem?_push, if_pos rfl], by simp, ((Below.refl _ w).alloc (Nat.le_refl _) _).alloc (by simp) _⟩

abbrev oldS : ByteArray := ⟨#[111, 108, 100]⟩

/-- An owned row's value is a slice of that many elements. -/
theorem owns_len {w : World} {base e size n : Nat} {v : Value} {xs : List Value} (h : w.ownsRow base e size v n xs) : ∃ a c, v = .slice a n c := by
  rcases h.2 with ⟨e1, e2⟩ | ⟨g, cap, _, e1, _⟩
  · subst e2; exact ⟨none, 0, e1⟩
  · exact ⟨_, cap, e1⟩
theorem owns_lower {w : World} {base base' e size n : Nat} {v : Value} {xs : List Value} (h : w.ownsRow base e size v n xs) (hb : base' ≤ base) : w.ownsRow base' e size v n xs := by
  refine ⟨h.1, ?_⟩
  rcases h.2 with hn | ⟨g, cap, cur, hv, hg, rest⟩
  · exact .inl hn
  · exact .inr ⟨g, cap, cur, hv, by omega, rest⟩

/-- What stands when both legs are filled: the argument, the call, the two legs with their requests. -/
structure Laid (w wr : World) (i : In) (n : Nat) (calling called : Value) (a1 a2 : Option Addr) (c1 c2 : Nat) : Prop where
  arg : InAt wr w.heap.size i
  call : CallAt wr (w.heap.size + 2) i.callID i.peer calling called i.rel oldS
  la : LegAt wr (w.heap.size + 2 + 1) i.mob i.bss (w.heap.size + 2) (.slice a1 n c1)
  lb : LegAt wr (w.heap.size + 2 + 1 + 1) i.mob2 i.bss2 (w.heap.size + 2) (.slice a2 n c2)
  row1 : wr.ownsRow (w.heap.size + 5) 68 2 (.slice a1 n c1) n (reqs n)
  row2 : wr.ownsRow (w.heap.size + 5) 68 2 (.slice a2 n c2) n (reqs n)
  below : Below w.heap.size w wr
  size : w.heap.size + 5 ≤ wr.heap.size

theorem laid_start {w wc : World} {i : In} (h : Start w wc i) (o1 o2 o3 : Obj) :
    (((wc.alloc o1).alloc o2).alloc o3).heap.size = w.heap.size + 5 ∧ (((wc.alloc o1).alloc o2).alloc o3).heap[w.heap.size + 2]? = some o1 ∧ (((wc.alloc o1).alloc o2).alloc o3).heap[w.heap.size + 2 + 1]? = some o2 ∧
    (((wc.alloc o1).alloc o2).alloc o3).heap[w.heap.size + 2 + 1 + 1]? = some o3 ∧ InAt (((wc.alloc o1).alloc o2).alloc o3) w.heap.size i ∧ Below w.heap.size w (((wc.alloc o1).alloc o2).alloc o3) := by
  have hs := h.size
  have e : (((wc.alloc o1).alloc o2).alloc o3).heap = ((wc.heap.push o1).push o2).push o3 := rfl
  have hb : Below w.heap.size w (((wc.alloc o1).alloc o2).alloc o3) := ((h.below.alloc (by omega) o1).alloc (by simp; omega) o2).alloc (by simp; omega) o3
  refine ⟨by rw [e]; simp; omega, ?_, ?_, ?_, h.arg.of_block ?_, hb⟩
  · rw [e, Array.getElem?_push, Array.size_push, Array.size_push, if_neg (by omega), Array.getElem?_push, Array.size_push, if_neg (by omega), Array.getElem?_push, if_pos (by omega)]
  · rw [e, Array.getElem?_push, Array.size_push, Array.size_push, if_neg (by omega), Array.getElem?_push, Array.size_push, if_pos (by omega)]
  · rw [e, Array.getElem?_push, Array.size_push, Array.size_push, if_pos (by omega)]
  · rw [e, Array.getElem?_push, Array.size_push, Array.size_push, if_neg (by omega), Array.getElem?_push, Array.size_push, if_neg (by omega), Array.getElem?_push, if_neg (by omega)]

/-- Behind the second filling. -/
theorem laid_of {w W w1 w2 : World} {i : In} {n : Nat} {v1 v2 : Value} (hS : W.heap.size = w.heap.size + 5) (hA : InAt W w.heap.size i) (hB : Below w.heap.size w W)
    (hC : CallAt W (w.heap.size + 2) i.callID i.peer (.pointer none) (.pointer none) i.rel oldS)
    (h1 : LegAt w1 (w.heap.size + 2 + 1) i.mob i.bss (w.heap.size + 2) v1) (o1 : w1.ownsRow W.heap.size 68 2 v1 n (reqs n)) (g1 : W.grownBy w1 (some (w.heap.size + 2 + 1)))
    (h2 : LegAt w2 (w.heap.size + 2 + 1 + 1) i.mob2 i.bss2 (w.heap.size + 2) v2) (o2 : w2.ownsRow w1.heap.size 68 2 v2 n (reqs n)) (g2 : w1.grownBy w2 (some (w.heap.size + 2 + 1 + 1))) :
    ∃ a1 a2 c1 c2, v1 = .slice a1 n c1 ∧ v2 = .slice a2 n c2 ∧ Laid w w2 i n (.pointer none) (.pointer none) a1 a2 c1 c2 := by
  obtain ⟨a1, c1, rfl⟩ := owns_len o1
  obtain ⟨a2, c2, rfl⟩ := owns_len o2
  have s1 := g1.size
  have s2 := g2.size
  have hk : ∀ k, k < w.heap.size + 5 → k ≠ w.heap.size + 2 + 1 → k ≠ w.heap.size + 2 + 1 + 1 → w2.heap[k]? = W.heap[k]? := fun k h a b => by
    rw [g2.block k (by omega) (by simpa using b), g1.block k (by omega) (by simpa using a)]
  refine ⟨a1, a2, c1, c2, rfl, rfl, hA.of_block (hk _ (by omega) (by omega) (by omega)), hC.of_block (hk _ (by omega) (by omega) (by omega)), h1.of_block (g2.block _ (by omega) (by simp)), h2, ?_, owns_lower o2 (by omega), ?_, by omega⟩
  · refine owns_lower (o1.kept g2 ?_) (by omega)
    cases hv : (Value.slice a1 n c1).ownBlock with
    | none => exact .inl rfl
    | some g =>
      refine .inr (fun e => ?_)
      have := (o1.lt g hv).1
      simp at e
      omega
  · exact ⟨by rw [g2.os, g1.os]; exact hB.os, by rw [g2.tape, g1.tape]; exact hB.tape, by rw [g2.output, g1.output]; exact hB.output, by have := hB.size; omega, fun k h => by rw [hk k (by omega) (by omega) (by omega)]; exact hB.block k h⟩

theorem size39 : (Ybad.prog.info? 39).map (·.size) = some 11 := by kernel_rfl
theorem ptr_neq_same (pc : Option Addr) (W : World) : (binOp .neq 29 (.pointer pc) (.pointer pc)).run Ybad.prog W = .ok (.bool false) W := by
  cases pc with
  | none => go_simp
  | some a =>
    obtain ⟨j, hj, _⟩ := Option.map_eq_some_iff.1 size39
    have h : ∀ d : Nat, (Op.equalIn (d + 1) 29 (.pointer (some a)) (.pointer (some a))).run Ybad.prog W = .ok true W := fun d => by
      simp [Op.equalIn, run_underlying Ybad.underlying29, sizeOf, typeInfo, hj, run_sameAddr_same]
    simp only [binOp]
    simp [Op.equal, Op.maxDepth, h 9999]

theorem CallAt.set3 {w : World} {b : Nat} {id peer releaser : ByteArray} {calling called : Value} {released : Bool} (h : CallAt w b id peer calling called released releaser) (u : Value) : CallAt (w.setCell ⟨b, 3, none⟩ u) b id peer u called released releaser := by
  unfold CallAt at h ⊢
  simp [World.setCell, Array.getElem?_modify, h, callCells]
theorem CallAt.set4 {w : World} {b : Nat} {id peer releaser : ByteArray} {calling called : Value} {released : Bool} (h : CallAt w b id peer calling called released releaser) (u : Value) : CallAt (w.setCell ⟨b, 4, none⟩ u) b id peer calling u released releaser := by
  unfold CallAt at h ⊢
  simp [World.setCell, Array.getElem?_modify, h, callCells]

theorem Laid.set3 {w wr : World} {i : In} {n : Nat} {calling called : Value} {a1 a2 : Option Addr} {c1 c2 : Nat} (h : Laid w wr i n calling called a1 a2 c1 c2) (u : Value) : Laid w (wr.setCell ⟨w.heap.size + 2, 3, none⟩ u) i n u called a1 a2 c1 c2 :=
  ⟨h.arg.of_block (Below.heap_setCell _ _ _ _ (by show w.heap.size ≠ w.heap.size + 2; omega)), h.call.set3 u, h.la.of_block (Below.heap_setCell _ _ _ _ (by show w.heap.size + 2 + 1 ≠ w.heap.size + 2; omega)), h.lb.of_block (Below.heap_setCell _ _ _ _ (by show w.heap.size + 2 + 1 + 1 ≠ w.heap.size + 2; omega)),
    ownsRow_setCell_below h.row1 (by omega) _, ownsRow_setCell_below h.row2 (by omega) _, h.below.setCell (by show w.heap.size ≤ w.heap.size + 2; omega) _, by simpa [World.setCell] using h.size⟩
theorem Laid.set4 {w wr : World} {i : In} {n : Nat} {calling called : Value} {a1 a2 : Option Addr} {c1 c2 : Nat} (h : Laid w wr i n calling called a1 a2 c1 c2) (u : Value) : Laid w (wr.setCell ⟨w.heap.size + 2, 4, none⟩ u) i n calling u a1 a2 c1 c2 :=
  ⟨h.arg.of_block (Below.heap_setCell _ _ _ _ (by show w.heap.size ≠ w.heap.size + 2; omega)), h.call.set4 u, h.la.of_block (Below.heap_setCell _ _ _ _ (by show w.heap.size + 2 + 1 ≠ w.heap.size + 2; omega)), h.lb.of_block (Below.heap_setCell _ _ _ _ (by show w.heap.size + 2 + 1 + 1 ≠ w.heap.size + 2; omega)),
    ownsRow_setCell_below h.row1 (by omega) _, ownsRow_setCell_below h.row2 (by omega) _, h.below.setCell (by show w.heap.size ≤ w.heap.size + 2; omega) _, by simpa [World.setCell] using h.size⟩

/-- Which leg the server's own is. -/
def OwnIs (calling called : Option Addr) (b : Nat) : Prop := calling = some ⟨b, 0, none⟩ ∨ (calling = none ∧ called = some ⟨b, 0, none⟩)

/-- What stands behind the switch over the legs: 's9', 's10' the own leg and the other. -/
def Chosen (w wr : World) (i : In) (n : Nat) (s9 s10 : Value) : Prop :=
  ∃ (calling called : Option Addr) (ob tb : Nat) (mo bo mt bt : ByteArray) (a1 a2 ao at_ : Option Addr) (c1 c2 co ct : Nat),
    s9 = .pointer (some ⟨ob, 0, none⟩) ∧ s10 = .pointer (some ⟨tb, 0, none⟩) ∧ OwnIs calling called ob ∧ ob ≠ tb ∧ ob < w.heap.size + 5 ∧
    LegAt wr ob mo bo (w.heap.size + 2) (.slice ao n co) ∧ LegAt wr tb mt bt (w.heap.size + 2) (.slice at_ n ct) ∧ wr.ownsRow (w.heap.size + 5) 68 2 (.slice ao n co) n (reqs n) ∧
    Laid w wr i n (.pointer calling) (.pointer called) a1 a2 c1 c2

theorem chosen_la {w wr : World} {i : In} {n : Nat} {called : Option Addr} {a1 a2 : Option Addr} {c1 c2 : Nat} (h : Laid w wr i n (.pointer (some ⟨w.heap.size + 2 + 1, 0, none⟩)) (.pointer called) a1 a2 c1 c2) :
    Chosen w wr i n (.pointer (some ⟨w.heap.size + 2 + 1, 0, none⟩)) (.pointer (some ⟨w.heap.size + 2 + 1 + 1, 0, none⟩)) :=
  ⟨_, called, _, _, i.mob, i.bss, i.mob2, i.bss2, a1, a2, a1, a2, c1, c2, c1, c2, rfl, rfl, .inl rfl, by omega, by omega, h.la, h.lb, h.row1, h⟩
theorem chosen_lb {w wr : World} {i : In} {n : Nat} {a1 a2 : Option Addr} {c1 c2 : Nat} (h : Laid w wr i n (.pointer none) (.pointer (some ⟨w.heap.size + 2 + 1 + 1, 0, none⟩)) a1 a2 c1 c2) :
    Chosen w wr i n (.pointer (some ⟨w.heap.size + 2 + 1 + 1, 0, none⟩)) (.pointer (some ⟨w.heap.size + 2 + 1, 0, none⟩)) :=
  ⟨_, _, _, _, i.mob2, i.bss2, i.mob, i.bss, a1, a2, a2, a1, c1, c2, c2, c1, rfl, rfl, .inr ⟨rfl, rfl⟩, by omega, by omega, h.lb, h.la, h.row2, h⟩

end Go.Proofs.YbulkabjgDoor
