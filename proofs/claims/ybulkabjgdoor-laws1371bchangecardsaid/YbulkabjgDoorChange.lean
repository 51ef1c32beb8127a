/-
  THE WALKS over '(*Server).change' (function 5): by how it ends.
-/
import Derived.Test.YbulkabjgDoorControl
import Derived.Deep.QuietTactic
import Derived.BigQuiet
import Derived.Deep.RegionWith
namespace Go.Proofs.YbulkabjgDoor
open Go.RowKit

/-- The message's cells (type 64): its type, its call, its change; all else at nought. -/
abbrev msgCells (mc ch : ByteArray) : Array Value :=
  #[.int .u8 26, .string ⟨#[]⟩, .string mc, .string ⟨#[]⟩, .string ⟨#[]⟩, .string ⟨#[]⟩, .string ⟨#[]⟩, .string ⟨#[]⟩, .int .u8 0, .int .u8 0, .int .u8 0, .bool false, .bool false, .string ⟨#[]⟩, .int .u8 0, .string ch, .string ⟨#[]⟩, .string ⟨#[]⟩, .string ⟨#[]⟩, .string ⟨#[]⟩, .string ⟨#[]⟩, .string ⟨#[]⟩, .string ⟨#[]⟩, .string ⟨#[]⟩, .string ⟨#[]⟩, .string ⟨#[]⟩]

/-- The cells of a call (type 33). -/
abbrev callCells (id peer : ByteArray) (calling called : Value) (released : Bool) (releaser : ByteArray) : Array Value :=
  #[.string id, .int .u8 0, .string ⟨#[]⟩, calling, called, .string ⟨#[]⟩, .string ⟨#[]⟩, .string peer, .string ⟨#[]⟩, .bool false, .bool false, .bool false, .bool false, .bool released, .string releaser]
/-- Block b is that call. -/
def CallAt (w : World) (b : Nat) (id peer : ByteArray) (calling called : Value) (released : Bool) (releaser : ByteArray) : Prop :=
  w.heap[b]? = some (.cells (callCells id peer calling called released releaser) 33 (0, 0))
section
variable {w w' : World} {b : Nat} {id peer : ByteArray} {calling called : Value} {released : Bool} {releaser : ByteArray}
theorem CallAt.lt (h : CallAt w b id peer calling called released releaser) : b < w.heap.size := (Array.getElem?_eq_some_iff.1 h).1
theorem CallAt.c3 (h : CallAt w b id peer calling called released releaser) : w.cell? ⟨b, 3, none⟩ = some calling := by rw [cell_of_row w b 3 _ 33 (0, 0) h]; rfl
theorem CallAt.c4 (h : CallAt w b id peer calling called released releaser) : w.cell? ⟨b, 4, none⟩ = some called := by rw [cell_of_row w b 4 _ 33 (0, 0) h]; rfl
theorem CallAt.c7 (h : CallAt w b id peer calling called released releaser) : w.cell? ⟨b, 7, none⟩ = some (.string peer) := by rw [cell_of_row w b 7 _ 33 (0, 0) h]; rfl
theorem CallAt.c13 (h : CallAt w b id peer calling called released releaser) : w.cell? ⟨b, 13, none⟩ = some (.bool released) := by rw [cell_of_row w b 13 _ 33 (0, 0) h]; rfl
theorem CallAt.c14 (h : CallAt w b id peer calling called released releaser) : w.cell? ⟨b, 14, none⟩ = some (.string releaser) := by rw [cell_of_row w b 14 _ 33 (0, 0) h]; rfl
theorem CallAt.frozen (h : CallAt w b id peer calling called released releaser) (i : Nat) : w.frozen? ⟨b, i, none⟩ = false := by unfold CallAt at h; simp [World.frozen?, h]
theorem CallAt.of_block (h : CallAt w b id peer calling called released releaser) (e : w'.heap[b]? = w.heap[b]?) : CallAt w' b id peer calling called released releaser := e.trans h
theorem CallAt.release (h : CallAt w b id peer calling called released releaser) (fr : ByteArray) : CallAt ((w.setCell ⟨b, 13, none⟩ (.bool true)).setCell ⟨b, 14, none⟩ (.string fr)) b id peer calling called true fr := by
  unfold CallAt at h ⊢
  simp [World.setCell, Array.getElem?_modify, h, callCells]
end

theorem heap_alloc_drewN {w : World} {o : Obj} {n k : Nat} (h : k < w.heap.size) : ((w.alloc o).drewN n).heap[k]? = w.heap[k]? := Below.heap_alloc w o k h

theorem below_drewN {B n : Nat} {a w : World} (h : Below B a w) : Below B a (w.drewN n) := ⟨h.os, h.tape, h.output, h.size, h.block⟩

set_option maxHeartbeats 1000000 in
set_option maxRecDepth 100000 in
/-- No such call. -/
theorem change_nocall (sb mb gb : Nat) (mc ch fr : ByteArray) (ctl : Int) (ok : Bool) (w : World) (hsb : sb < w.heap.size) (hmb : mb < w.heap.size) (hgb : gb < w.heap.size) (h0 : 0 < w.heap.size)
    (s3 : w.cell? ⟨sb, 3, none⟩ = some (.map (some mb))) (g0 : w.cell? ⟨0, 0, none⟩ = some (.map (some gb)))
    (hlk : ∀ W' : World, W'.heap[mb]? = w.heap[mb]? → (Instr.lookup 42 (.map (some mb)) (.string mc) false).run Ybad.prog W' = .ok (.pointer none) W')
    (hct : ∀ W' : World, W'.heap[gb]? = w.heap[gb]? → (Instr.lookup 71 (.map (some gb)) (.string ch) true).run Ybad.prog W' = .ok (.tuple #[.int .u8 ctl, .bool ok]) W') :
    Calls Ybad.prog 5 #[.pointer (some ⟨sb, 0, none⟩), .string fr, .agg (msgCells mc ch)] w fun e w' => e = .returned (.slice none 0 0) ∧ Below w.heap.size w w' := by
  have l1 : ∀ n, (Instr.lookup 42 (.map (some mb)) (.string mc) false).run Ybad.prog ((w.alloc (.cells (msgCells mc ch) 64)).drewN n) = .ok (.pointer none) ((w.alloc (.cells (msgCells mc ch) 64)).drewN n) := fun n => hlk _ (heap_alloc_drewN hmb)
  have l2 : ∀ n, (Instr.lookup 71 (.map (some gb)) (.string ch) true).run Ybad.prog ((w.alloc (.cells (msgCells mc ch) 64)).drewN n) = .ok (.tuple #[.int .u8 ctl, .bool ok]) ((w.alloc (.cells (msgCells mc ch) 64)).drewN n) := fun n => hct _ (heap_alloc_drewN hgb)
  clear hlk hct
  go_enter Ybad.func5, Ybad.ntmps5
  go_wp2_with fail
  go_quiet (fail)
  go_wp2_with fail
  go_ret
  exact ⟨rfl, below_drewN ((Below.refl _ _).alloc (Nat.le_refl _) _)⟩

set_option maxHeartbeats 1000000 in
set_option maxRecDepth 100000 in
/-- The sender is not the call's peer. -/
theorem change_peer (sb mb gb cb : Nat) (mc ch fr peer : ByteArray) (ctl : Int) (ok : Bool) (w : World) (hsb : sb < w.heap.size) (hmb : mb < w.heap.size) (hgb : gb < w.heap.size) (hcb : cb < w.heap.size) (h0 : 0 < w.heap.size)
    (s3 : w.cell? ⟨sb, 3, none⟩ = some (.map (some mb))) (g0 : w.cell? ⟨0, 0, none⟩ = some (.map (some gb))) (c7 : w.cell? ⟨cb, 7, none⟩ = some (.string peer)) (hne : ¬ peer.toList = fr.toList)
    (hlk : ∀ W' : World, W'.heap[mb]? = w.heap[mb]? → (Instr.lookup 42 (.map (some mb)) (.string mc) false).run Ybad.prog W' = .ok (.pointer (some ⟨cb, 0, none⟩)) W')
    (hct : ∀ W' : World, W'.heap[gb]? = w.heap[gb]? → (Instr.lookup 71 (.map (some gb)) (.string ch) true).run Ybad.prog W' = .ok (.tuple #[.int .u8 ctl, .bool ok]) W') :
    Calls Ybad.prog 5 #[.pointer (some ⟨sb, 0, none⟩), .string fr, .agg (msgCells mc ch)] w fun e w' => e = .returned (.slice none 0 0) ∧ Below w.heap.size w w' := by
  have l1 : ∀ n, (Instr.lookup 42 (.map (some mb)) (.string mc) false).run Ybad.prog ((w.alloc (.cells (msgCells mc ch) 64)).drewN n) = .ok (.pointer (some ⟨cb, 0, none⟩)) ((w.alloc (.cells (msgCells mc ch) 64)).drewN n) := fun n => hlk _ (heap_alloc_drewN hmb)
  have l2 : ∀ n, (Instr.lookup 71 (.map (some gb)) (.string ch) true).run Ybad.prog ((w.alloc (.cells (msgCells mc ch) 64)).drewN n) = .ok (.tuple #[.int .u8 ctl, .bool ok]) ((w.alloc (.cells (msgCells mc ch) 64)).drewN n) := fun n => hct _ (heap_alloc_drewN hgb)
  clear hlk hct
  go_enter Ybad.func5, Ybad.ntmps5
  go_wp2_with fail
  go_quiet (fail)
  go_wp2_with fail
  go_ret
  exact ⟨rfl, below_drewN ((Below.refl _ _).alloc (Nat.le_refl _) _)⟩

set_option maxHeartbeats 1000000 in
set_option maxRecDepth 100000 in
/-- A change that it does not know. -/
theorem change_unknown (sb mb gb cb : Nat) (mc ch fr peer : ByteArray) (ctl : Int) (w : World) (hsb : sb < w.heap.size) (hmb : mb < w.heap.size) (hgb : gb < w.heap.size) (hcb : cb < w.heap.size) (h0 : 0 < w.heap.size)
    (s3 : w.cell? ⟨sb, 3, none⟩ = some (.map (some mb))) (g0 : w.cell? ⟨0, 0, none⟩ = some (.map (some gb))) (c7 : w.cell? ⟨cb, 7, none⟩ = some (.string peer)) (hpe : peer.toList = fr.toList)
    (hlk : ∀ W' : World, W'.heap[mb]? = w.heap[mb]? → (Instr.lookup 42 (.map (some mb)) (.string mc) false).run Ybad.prog W' = .ok (.pointer (some ⟨cb, 0, none⟩)) W')
    (hct : ∀ W' : World, W'.heap[gb]? = w.heap[gb]? → (Instr.lookup 71 (.map (some gb)) (.string ch) true).run Ybad.prog W' = .ok (.tuple #[.int .u8 ctl, .bool false]) W') :
    Calls Ybad.prog 5 #[.pointer (some ⟨sb, 0, none⟩), .string fr, .agg (msgCells mc ch)] w fun e w' => e = .returned (.slice none 0 0) ∧ Below w.heap.size w w' := by
  have l1 : ∀ n, (Instr.lookup 42 (.map (some mb)) (.string mc) false).run Ybad.prog ((w.alloc (.cells (msgCells mc ch) 64)).drewN n) = .ok (.pointer (some ⟨cb, 0, none⟩)) ((w.alloc (.cells (msgCells mc ch) 64)).drewN n) := fun n => hlk _ (heap_alloc_drewN hmb)
  have l2 : ∀ n, (Instr.lookup 71 (.map (some gb)) (.string ch) true).run Ybad.prog ((w.alloc (.cells (msgCells mc ch) 64)).drewN n) = .ok (.tuple #[.int .u8 ctl, .bool false]) ((w.alloc (.cells (msgCells mc ch) 64)).drewN n) := fun n => hct _ (heap_alloc_drewN hgb)
  clear hlk hct
  go_enter Ybad.func5, Ybad.ntmps5
  go_wp2_with fail
  go_quiet (fail)
  go_wp2_with fail
  go_ret
  exact ⟨rfl, below_drewN ((Below.refl _ _).alloc (Nat.le_refl _) _)⟩

/-- What a hit leaves: the answer's block, the call, the own leg with one request more; all else that was there is as it was, but the leg, the call and the row of the leg's requests. -/
structure HitPost (w w' : World) (ob cb lb base n : Nat) (ch fr id peer relr mob bss : ByteArray) (calling called v : Value) (xs : List Value) (rel : Bool) (ctl : Int) : Prop where
  out : w'.heap[ob]? = some (.cells (outCells bss mob ctl) 66 (0, 0))
  new : w.heap.size ≤ ob
  call : CallAt w' cb id peer calling called rel relr
  leg : ∃ v', LegAt w' lb mob bss cb v' ∧ w'.ownsRow base 68 2 v' (n + 1) (xs ++ [.string ch, .string fr])
  size : w.heap.size ≤ w'.heap.size
  os : w'.os = w.os
  tape : w'.tape = w.tape
  output : w'.output = w.output
  kept : ∀ k, k < w.heap.size → k ≠ lb → k ≠ cb → some k ≠ v.ownBlock → w'.heap[k]? = w.heap[k]?

theorem hit_end {w w1 : World} {cb lb base n : Nat} {ch fr id peer relr mob bss : ByteArray} {calling called v v' : Value} {xs : List Value} {rel : Bool} {ctl : Int} {o : Obj}
    (hc : CallAt w cb id peer calling called rel relr) (hl : LegAt w lb mob bss cb v) (hown : w.ownsRow base 68 2 v n xs) (hcb : cb < base)
    (hk : Kept (w.alloc o) w1 lb v.ownBlock) (hleg : LegAt w1 lb mob bss cb v') (hown' : w1.ownsRow base 68 2 v' (n + 1) (xs ++ [.string ch, .string fr])) :
    HitPost w (w1.alloc (.cells (outCells bss mob ctl) 66)) w1.heap.size cb lb base n ch fr id peer relr mob bss calling called v xs rel ctl := by
  obtain ⟨k1, k2, k3, k4, k5⟩ := hk
  have hs : (w.alloc o).heap.size = w.heap.size + 1 := by simp
  rw [hs] at k4 k5
  have hsame : ∀ k, k < w.heap.size → k ≠ lb → some k ≠ v.ownBlock → (w1.alloc (.cells (outCells bss mob ctl) 66)).heap[k]? = w.heap[k]? := fun k hk h1 h2 => by
    rw [Below.heap_alloc _ _ _ (by omega), k5 k (by omega) h1 h2, Below.heap_alloc _ _ _ hk]
  have hne : cb ≠ lb := fun e => by
    subst e
    have h1 : w.heap[cb]? = some (.cells (callCells id peer calling called rel relr) 33 (0, 0)) := hc
    have h2 : w.heap[cb]? = some (.cells (legCells mob bss cb v) 39 (0, 0)) := hl
    rw [h1] at h2
    simp at h2
  refine ⟨heap_alloc_last _ _, by omega, hc.of_block (hsame cb hc.lt hne (fun e => by have := (hown.lt cb e.symm).1; omega)), ⟨v', hleg.of_block (Below.heap_alloc _ _ _ hleg.lt), hown'.alloc _⟩, by simp; omega, k1, k2, k3, fun k hk h1 _ h2 => hsame k hk h1 h2⟩

set_option maxHeartbeats 2000000 in
set_option maxRecDepth 100000 in
/-- A known change that is no release. -/
theorem change_hit (sb mb gb cb lb base n : Nat) (mc ch fr id peer relr mob bss : ByteArray) (calling called v : Value) (xs : List Value) (rel0 : Bool) (ctl : Int) (w : World)
    (hsb : sb < w.heap.size) (hmb : mb < w.heap.size) (hgb : gb < w.heap.size) (h0 : 0 < w.heap.size) (hn : n ≤ 7) (hlb : lb < base) (hcbb : cb < base) (hbase : base ≤ w.heap.size)
    (s3 : w.cell? ⟨sb, 3, none⟩ = some (.map (some mb))) (g0 : w.cell? ⟨0, 0, none⟩ = some (.map (some gb)))
    (hc : CallAt w cb id peer calling called rel0 relr) (hl : LegAt w lb mob bss cb v) (hown : w.ownsRow base 68 2 v n xs) (hpe : peer.toList = fr.toList) (hnr : ¬ ch.toList = [114, 101, 108, 101, 97, 115, 101])
    (hown7 : ∀ W' : World, W'.cell? ⟨cb, 3, none⟩ = some calling → W'.cell? ⟨cb, 4, none⟩ = some called → Calls Ybad.prog 7 #[.pointer (some ⟨cb, 0, none⟩)] W' fun e w'' => e = .returned (.pointer (some ⟨lb, 0, none⟩)) ∧ w'' = W')
    (hlk : ∀ W' : World, W'.heap[mb]? = w.heap[mb]? → (Instr.lookup 42 (.map (some mb)) (.string mc) false).run Ybad.prog W' = .ok (.pointer (some ⟨cb, 0, none⟩)) W')
    (hct : ∀ W' : World, W'.heap[gb]? = w.heap[gb]? → (Instr.lookup 71 (.map (some gb)) (.string ch) true).run Ybad.prog W' = .ok (.tuple #[.int .u8 ctl, .bool true]) W') :
    Calls Ybad.prog 5 #[.pointer (some ⟨sb, 0, none⟩), .string fr, .agg (msgCells mc ch)] w fun e w' => ∃ ob, e = .returned (.slice (some ⟨ob, 0, none⟩) 1 1) ∧ HitPost w w' ob cb lb base n ch fr id peer relr mob bss calling called v xs rel0 ctl := by
  have l1 : ∀ n, (Instr.lookup 42 (.map (some mb)) (.string mc) false).run Ybad.prog ((w.alloc (.cells (msgCells mc ch) 64)).drewN n) = .ok (.pointer (some ⟨cb, 0, none⟩)) ((w.alloc (.cells (msgCells mc ch) 64)).drewN n) := fun n => hlk _ (heap_alloc_drewN hmb)
  have l2 : ∀ n, (Instr.lookup 71 (.map (some gb)) (.string ch) true).run Ybad.prog ((w.alloc (.cells (msgCells mc ch) 64)).drewN n) = .ok (.tuple #[.int .u8 ctl, .bool true]) ((w.alloc (.cells (msgCells mc ch) 64)).drewN n) := fun n => hct _ (heap_alloc_drewN hgb)
  have hnr' : (ch.toList == [114, 101, 108, 101, 97, 115, 101]) = false := by simpa using hnr
  have hcb := hc.lt
  have c7 := hc.c7
  have c3 := hc.c3
  have c4 := hc.c4
  have hlw := hl.lt
  have HC : Hid (CallAt w cb id peer calling called rel0 relr) := hc
  have HL : Hid (LegAt w lb mob bss cb v) := hl
  have HO : Hid (w.ownsRow base 68 2 v n xs) := hown
  have H7 : Hid (∀ W' : World, W'.cell? ⟨cb, 3, none⟩ = some calling → W'.cell? ⟨cb, 4, none⟩ = some called → Calls Ybad.prog 7 #[.pointer (some ⟨cb, 0, none⟩)] W' fun e w'' => e = .returned (.pointer (some ⟨lb, 0, none⟩)) ∧ w'' = W') := hown7
  clear hlk hct hc hl hown hown7
  go_enter Ybad.func5, Ybad.ntmps5
  go_wp2_with fail
  go_quiet (fail)
  go_wp2_with fail
  go_region_with (first
    | (go_at_call 7; refine (H7.out _ ?_ ?_).mono ?_; (go_simp); (go_simp); rintro e w' ⟨rfl, rfl⟩)
    | (go_at_call 6; refine (control_any lb mob bss cb n base v xs ctl ch fr _ hn ?_ ?_ hlb ?_).mono ?_; exact HL.out.of_block (heap_alloc_drewN hlw); exact HO.out.alloc _; (simp; omega); rintro e w' ⟨rfl, v', hleg, hown', hkept⟩))
  all_goals
    have R := hit_end (ctl := ctl) HC.out HL.out HO.out hcbb hkept hleg hown'
    have HR : Hid _ := R
    clear R hkept hleg hown'
    go_wp2
    go_ret
    exact ⟨_, rfl, HR.out⟩

end Go.Proofs.YbulkabjgDoor
