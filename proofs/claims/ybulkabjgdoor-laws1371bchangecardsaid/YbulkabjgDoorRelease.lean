/-
  THE WALK over '(*Server).change' (function 5) at a release: the call is marked ahead of the control.
-/
import Derived.Test.YbulkabjgDoorChange
namespace Go.Proofs.YbulkabjgDoor
open Go.RowKit

/-- What holds when 'change' comes to its control behind the two marks of a release: W is that world. -/
structure RelFacts (w W : World) (cb lb base n : Nat) (fr id peer mob bss : ByteArray) (calling called v : Value) (xs : List Value) : Prop where
  call : CallAt W cb id peer calling called true fr
  leg : LegAt W lb mob bss cb v
  owns : W.ownsRow base 68 2 v n xs
  os : W.os = w.os
  tape : W.tape = w.tape
  output : W.output = w.output
  size : w.heap.size ≤ W.heap.size
  same : ∀ k, k < w.heap.size → k ≠ cb → W.heap[k]? = w.heap[k]?

theorem rel_facts {w : World} {o : Obj} {cb lb base n nq : Nat} {fr id peer relr mob bss : ByteArray} {calling called v : Value} {xs : List Value} {rel : Bool}
    (hc : CallAt w cb id peer calling called rel relr) (hl : LegAt w lb mob bss cb v) (hown : w.ownsRow base 68 2 v n xs) (hcb : cb < base) :
    RelFacts w ((((w.alloc o).drewN nq).setCell ⟨cb, 13, none⟩ (.bool true)).setCell ⟨cb, 14, none⟩ (.string fr)) cb lb base n fr id peer mob bss calling called v xs := by
  have hne : lb ≠ cb := fun e => by
    subst e
    have h1 : w.heap[lb]? = some (.cells (callCells id peer calling called rel relr) 33 (0, 0)) := hc
    have h2 : w.heap[lb]? = some (.cells (legCells mob bss lb v) 39 (0, 0)) := hl
    rw [h1] at h2
    simp at h2
  have hs : ∀ k, k < w.heap.size → k ≠ cb → ((((w.alloc o).drewN nq).setCell ⟨cb, 13, none⟩ (.bool true)).setCell ⟨cb, 14, none⟩ (.string fr)).heap[k]? = w.heap[k]? := fun k hk h1 => by
    rw [Below.heap_setCell _ ⟨cb, 14, none⟩ _ k h1, Below.heap_setCell _ ⟨cb, 13, none⟩ _ k h1]
    exact heap_alloc_drewN hk
  refine ⟨(hc.of_block (w' := (w.alloc o).drewN nq) (heap_alloc_drewN hc.lt)).release fr, hl.of_block (hs lb hl.lt hne), ownsRow_setCell_below (ownsRow_setCell_below (show ((w.alloc o).drewN nq).ownsRow base 68 2 v n xs from hown.alloc o) hcb _) hcb _, rfl, rfl, rfl, ?_, hs⟩
  have e : ((w.alloc o).drewN nq).heap.size = w.heap.size + 1 := by show (w.heap.push o).size = _; simp
  have e2 : ((((w.alloc o).drewN nq).setCell ⟨cb, 13, none⟩ (.bool true)).setCell ⟨cb, 14, none⟩ (.string fr)).heap.size = ((w.alloc o).drewN nq).heap.size := by simp only [World.setCell, Array.size_modify]
  omega

theorem rel_end {w W w1 : World} {cb lb base n : Nat} {ch fr id peer mob bss : ByteArray} {calling called v v' : Value} {xs : List Value} {ctl : Int}
    (h : RelFacts w W cb lb base n fr id peer mob bss calling called v xs) (hcb : cb < base) (hown : w.ownsRow base 68 2 v n xs)
    (hk : Kept W w1 lb v.ownBlock) (hleg : LegAt w1 lb mob bss cb v') (hown' : w1.ownsRow base 68 2 v' (n + 1) (xs ++ [.string ch, .string fr])) :
    HitPost w (w1.alloc (.cells (outCells bss mob ctl) 66)) w1.heap.size cb lb base n ch fr id peer fr mob bss calling called v xs true ctl := by
  obtain ⟨k1, k2, k3, k4, k5⟩ := hk
  have hsz := h.size
  have hne : cb ≠ lb := fun e => by
    subst e
    have h1 : W.heap[cb]? = some (.cells (callCells id peer calling called true fr) 33 (0, 0)) := h.call
    have h2 : W.heap[cb]? = some (.cells (legCells mob bss cb v) 39 (0, 0)) := h.leg
    rw [h1] at h2
    simp at h2
  have hsame : ∀ k, k < W.heap.size → k ≠ lb → some k ≠ v.ownBlock → (w1.alloc (.cells (outCells bss mob ctl) 66)).heap[k]? = W.heap[k]? := fun k hk h1 h2 => by
    rw [Below.heap_alloc _ _ _ (by omega), k5 k (by omega) h1 h2]
  refine ⟨heap_alloc_last _ _, by omega, h.call.of_block (hsame cb h.call.lt hne (fun e => by have := (hown.lt cb e.symm).1; omega)), ⟨v', hleg.of_block (Below.heap_alloc _ _ _ hleg.lt), hown'.alloc _⟩, by simp; omega, k1.trans h.os, k2.trans h.tape, k3.trans h.output, fun k hk h1 h3 h2 => ?_⟩
  rw [hsame k (by omega) h1 h2]
  exact h.same k hk h3

set_option maxHeartbeats 2000000 in
set_option maxRecDepth 100000 in
/-- A release. -/
theorem change_release (sb mb gb cb lb base n : Nat) (mc ch fr id peer relr mob bss : ByteArray) (calling called v : Value) (xs : List Value) (rel0 : Bool) (ctl : Int) (w : World)
    (hsb : sb < w.heap.size) (hmb : mb < w.heap.size) (hgb : gb < w.heap.size) (h0 : 0 < w.heap.size) (hn : n ≤ 7) (hlb : lb < base) (hcbb : cb < base) (hbase : base ≤ w.heap.size)
    (s3 : w.cell? ⟨sb, 3, none⟩ = some (.map (some mb))) (g0 : w.cell? ⟨0, 0, none⟩ = some (.map (some gb)))
    (hc : CallAt w cb id peer calling called rel0 relr) (hl : LegAt w lb mob bss cb v) (hown : w.ownsRow base 68 2 v n xs) (hpe : peer.toList = fr.toList) (hr : ch.toList = [114, 101, 108, 101, 97, 115, 101])
    (hown7 : ∀ W' : World, W'.cell? ⟨cb, 3, none⟩ = some calling → W'.cell? ⟨cb, 4, none⟩ = some called → Calls Ybad.prog 7 #[.pointer (some ⟨cb, 0, none⟩)] W' fun e w'' => e = .returned (.pointer (some ⟨lb, 0, none⟩)) ∧ w'' = W')
    (hlk : ∀ W' : World, W'.heap[mb]? = w.heap[mb]? → (Instr.lookup 42 (.map (some mb)) (.string mc) false).run Ybad.prog W' = .ok (.pointer (some ⟨cb, 0, none⟩)) W')
    (hct : ∀ W' : World, W'.heap[gb]? = w.heap[gb]? → (Instr.lookup 71 (.map (some gb)) (.string ch) true).run Ybad.prog W' = .ok (.tuple #[.int .u8 ctl, .bool true]) W') :
    Calls Ybad.prog 5 #[.pointer (some ⟨sb, 0, none⟩), .string fr, .agg (msgCells mc ch)] w fun e w' => ∃ ob, e = .returned (.slice (some ⟨ob, 0, none⟩) 1 1) ∧ HitPost w w' ob cb lb base n ch fr id peer fr mob bss calling called v xs true ctl := by
  have l1 : ∀ n, (Instr.lookup 42 (.map (some mb)) (.string mc) false).run Ybad.prog ((w.alloc (.cells (msgCells mc ch) 64)).drewN n) = .ok (.pointer (some ⟨cb, 0, none⟩)) ((w.alloc (.cells (msgCells mc ch) 64)).drewN n) := fun n => hlk _ (heap_alloc_drewN hmb)
  have l2 : ∀ n, (Instr.lookup 71 (.map (some gb)) (.string ch) true).run Ybad.prog ((w.alloc (.cells (msgCells mc ch) 64)).drewN n) = .ok (.tuple #[.int .u8 ctl, .bool true]) ((w.alloc (.cells (msgCells mc ch) 64)).drewN n) := fun n => hct _ (heap_alloc_drewN hgb)
  have hcb := hc.lt
  have c7 := hc.c7
  have c3 := hc.c3
  have c4 := hc.c4
  have hlw := hl.lt
  have c13 := hc.c13
  have c14 := hc.c14
  have f13 := hc.frozen 13
  have f14 := hc.frozen 14
  have HC : Hid (CallAt w cb id peer calling called rel0 relr) := hc
  have HL : Hid (LegAt w lb mob bss cb v) := hl
  have HO : Hid (w.ownsRow base 68 2 v n xs) := hown
  have H7 : Hid (∀ W' : World, W'.cell? ⟨cb, 3, none⟩ = some calling → W'.cell? ⟨cb, 4, none⟩ = some called → Calls Ybad.prog 7 #[.pointer (some ⟨cb, 0, none⟩)] W' fun e w'' => e = .returned (.pointer (some ⟨lb, 0, none⟩)) ∧ w'' = W') := hown7
  clear hlk hct hc hl hown hown7
  go_enter Ybad.func5, Ybad.ntmps5
  go_wp2_with fail
  go_quiet (fail)
  go_wp2_with fail
  have F := rel_facts (o := .cells (msgCells mc ch) 64) (nq := nq) (fr := fr) HC.out HL.out HO.out hcbb
  have HF : Hid _ := F
  clear F
  go_region_with (first
    | (go_at_call 7; refine (H7.out _ ?_ ?_).mono ?_; (exact HF.out.call.c3); (exact HF.out.call.c4); rintro e w' ⟨rfl, rfl⟩)
    | (go_at_call 6; refine (control_any lb mob bss cb n base v xs ctl ch fr _ hn ?_ ?_ hlb ?_).mono ?_; exact HF.out.leg; exact HF.out.owns; (simp [World.setCell]; omega); rintro e w' ⟨rfl, v', hleg, hown', hkept⟩))
  all_goals
    have R := rel_end (ctl := ctl) HF.out hcbb HO.out hkept hleg hown'
    have HR : Hid _ := R
    clear R hkept hleg hown'
    go_wp2
    go_ret
    exact ⟨_, rfl, HR.out⟩

end Go.Proofs.YbulkabjgDoor
