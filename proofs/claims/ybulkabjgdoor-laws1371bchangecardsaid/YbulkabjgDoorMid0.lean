/-
  WHAT STANDS BEHIND THE CALL OF 'change', AND HOW ITS CONTRACTS GIVE IT.
-/
import Derived.Test.YbulkabjgDoorHit
import Derived.WideShapes
namespace Go.Proofs.YbulkabjgDoor
open Go.RowKit

/-- Behind the call of 'change': it missed, or it hit. -/
def After (w W : World) (i : In) (n : Nat) (calling called : Option Addr) (ob tb : Nat) (mc ch fr mo bo mt bt : ByteArray) (s16 : Value) : Prop :=
  (∃ a1 a2 c1 c2, s16 = .slice none 0 0 ∧ Laid w W i n (.pointer calling) (.pointer called) a1 a2 c1 c2 ∧
    (¬ mc.toList = i.callID.toList ∨ (mc.toList = i.callID.toList ∧ ¬ fr.toList = i.peer.toList) ∨ (mc.toList = i.callID.toList ∧ fr.toList = i.peer.toList ∧ knownB ch = false))) ∨
  (∃ rel' relr' at_ outb ct g cap, s16 = .slice (some ⟨outb, 0, none⟩) 1 1 ∧ Hits w W i n ob tb outb mo bo mt bt ch fr rel' relr' (.pointer calling) (.pointer called) at_ ct g cap ∧
    ((ch.toList = [114, 101, 108, 101, 97, 115, 101] ∧ rel' = true ∧ relr' = fr) ∨ (¬ ch.toList = [114, 101, 108, 101, 97, 115, 101] ∧ rel' = i.rel ∧ relr' = oldS)) ∧
    mc.toList = i.callID.toList ∧ fr.toList = i.peer.toList ∧ knownB ch = true)

theorem bytes_eq {a b : ByteArray} (h : a.toList = b.toList) : a = b := by
  rw [ByteArray.toList_eq, ByteArray.toList_eq] at h
  exact WideShapes.bytes_inj h

section
variable {w wc w' : World} {i : In} {n : Nat} {calling called : Option Addr} {ob tb sb mb : Nat} {mo bo mt bt mc ch fr : ByteArray} {a1 a2 ao at_ : Option Addr} {c1 c2 co ct : Nat}

/-- The server's map of calls answers with its one call. -/
theorem Served.look_yes (h : Served w wc i n calling called ob tb sb mb mo bo mt bt a1 a2 ao at_ c1 c2 co ct) (hm : mc.toList = i.callID.toList) :
    ∀ W' : World, W'.heap[mb]? = wc.heap[mb]? → (Instr.lookup 42 (.map (some mb)) (.string mc) false).run Ybad.prog W' = .ok (.pointer (some ⟨w.heap.size + 2, 0, none⟩)) W' := by
  intro W' hb
  obtain rfl := bytes_eq hm
  have hb' := hb.trans h.map
  have hc : ∀ e, (Instr.checkKey e 10000 9 (.string i.callID)).run Ybad.prog W' = .ok () W' := fun e => MapKept.run_checkKey (k := .string i.callID) Ybad.underlying9 (by simp [MapKept.IsKey]) e 9999
  have hf : Instr.findNow .string (.string i.callID) [theCall w i] 0 = some (some (0, .pointer (some ⟨w.heap.size + 2, 0, none⟩))) := by
    have e : (i.callID == i.callID) = true := by rw [MapKept.bytes_beq]
    simp [Instr.findNow, Instr.sameNow, e]
  simp [Instr.lookup, run_underlying Ybad.underlying42, MapKept.run_getObj_map hb', hc, MapKept.run_findKey Ybad.underlying9 hf, Result.andThen]

theorem Served.look_no (h : Served w wc i n calling called ob tb sb mb mo bo mt bt a1 a2 ao at_ c1 c2 co ct) (hm : ¬ mc.toList = i.callID.toList) :
    ∀ W' : World, W'.heap[mb]? = wc.heap[mb]? → (Instr.lookup 42 (.map (some mb)) (.string mc) false).run Ybad.prog W' = .ok (.pointer none) W' := by
  intro W' hb
  have hne : ¬ mc = i.callID := fun e => hm (by rw [e])
  have hb' := hb.trans h.map
  have hz : (zeroValue 26).run Ybad.prog W' = .ok (.pointer none) W' := by kernel_rfl
  have hc : ∀ e, (Instr.checkKey e 10000 9 (.string mc)).run Ybad.prog W' = .ok () W' := fun e => MapKept.run_checkKey (k := .string mc) Ybad.underlying9 (by simp [MapKept.IsKey]) e 9999
  have hf : Instr.findNow .string (.string mc) [theCall w i] 0 = some none := by
    have e : (mc == i.callID) = false := by
      cases h2 : (mc == i.callID) with
      | false => rfl
      | true => rw [MapKept.bytes_beq] at h2; exact absurd h2 hne
    simp [Instr.findNow, Instr.sameNow, e]
  simp [Instr.lookup, run_underlying Ybad.underlying42, MapKept.run_getObj_map hb', hc, MapKept.run_findKey Ybad.underlying9 hf, hz, Result.andThen]

theorem own7 (h : OwnIs calling called ob) : ∀ W' : World, W'.cell? ⟨w.heap.size + 2, 3, none⟩ = some (.pointer calling) → W'.cell? ⟨w.heap.size + 2, 4, none⟩ = some (.pointer called) →
    Calls Ybad.prog 7 #[.pointer (some ⟨w.heap.size + 2, 0, none⟩)] W' fun e w'' => e = .returned (.pointer (some ⟨ob, 0, none⟩)) ∧ w'' = W' := by
  intro W' h3 h4
  rcases h with rfl | ⟨rfl, rfl⟩
  · exact own_calling _ _ _ h3
  · exact own_called _ _ _ h3 h4

theorem after_miss (h : Served w wc i n calling called ob tb sb mb mo bo mt bt a1 a2 ao at_ c1 c2 co ct) (hb : Below wc.heap.size wc w')
    (hm : ¬ mc.toList = i.callID.toList ∨ (mc.toList = i.callID.toList ∧ ¬ fr.toList = i.peer.toList) ∨ (mc.toList = i.callID.toList ∧ fr.toList = i.peer.toList ∧ knownB ch = false)) :
    After w w' i n calling called ob tb mc ch fr mo bo mt bt (.slice none 0 0) :=
  .inl ⟨a1, a2, c1, c2, rfl, h.laid.on hb, hm⟩

theorem after_hit {outb : Nat} {rel' : Bool} {relr' : ByteArray} (h : Served w wc i n calling called ob tb sb mb mo bo mt bt a1 a2 ao at_ c1 c2 co ct) (hne : ob ≠ tb) (hobN : w.heap.size ≤ ob)
    (hp : HitPost wc w' outb (w.heap.size + 2) ob (w.heap.size + 5) n ch fr i.callID i.peer relr' mo bo (.pointer calling) (.pointer called) (.slice ao n co) (reqs n) rel' (ctlOf ch))
    (hr : (ch.toList = [114, 101, 108, 101, 97, 115, 101] ∧ rel' = true ∧ relr' = fr) ∨ (¬ ch.toList = [114, 101, 108, 101, 97, 115, 101] ∧ rel' = i.rel ∧ relr' = oldS))
    (hmc : mc.toList = i.callID.toList) (hfr : fr.toList = i.peer.toList) (hkn : knownB ch = true) :
    After w w' i n calling called ob tb mc ch fr mo bo mt bt (.slice (some ⟨outb, 0, none⟩) 1 1) := by
  obtain ⟨v', hl', ho'⟩ := hp.leg
  obtain ⟨g, cap, rfl⟩ := own_some ho'
  have hown : ∀ k, (Value.slice ao n co).ownBlock = some k → w.heap.size + 5 ≤ k := fun k hk => (h.row.lt k hk).1
  have hsz := h.laid.size
  have htb : tb ≠ w.heap.size + 2 := fun e => by
    have h1 : wc.heap[tb]? = some (.cells (legCells mt bt (w.heap.size + 2) (.slice at_ n ct)) 39 (0, 0)) := h.oth
    have h2 : wc.heap[w.heap.size + 2]? = some (.cells (callCells i.callID i.peer (.pointer calling) (.pointer called) i.rel oldS) 33 (0, 0)) := h.laid.call
    rw [e, h2] at h1
    simp at h1
  have hobN' : ob ≠ w.heap.size := fun e => by
    have h1 : wc.heap[ob]? = some (.cells (legCells mo bo (w.heap.size + 2) (.slice ao n co)) 39 (0, 0)) := h.own
    have h2 : wc.heap[w.heap.size]? = some (.cells (inCells i) 23 (0, 0)) := h.laid.arg
    rw [e, h2] at h1
    simp at h1
  have htg : some tb ≠ (Value.slice ao n co).ownBlock := fun e => by
    rcases h.row.2 with ⟨e2, _⟩ | ⟨g', cap', cur, e2, _, hg, _⟩
    · rw [e2] at e; simp [Value.ownBlock] at e
    · rw [e2] at e
      simp [Value.ownBlock] at e
      have h1 : wc.heap[tb]? = some (.cells (legCells mt bt (w.heap.size + 2) (.slice at_ n ct)) 39 (0, 0)) := h.oth
      rw [e, hg] at h1
      simp at h1
  refine .inr ⟨rel', relr', at_, outb, ct, g, cap, rfl, ⟨h.laid.arg.of_block (hp.kept _ h.laid.arg.lt (by omega) (by omega) (fun e => by have := hown _ e.symm; omega)), hp.call, hl', h.oth.of_block (hp.kept tb h.oth.lt (by omega) htb htg), ho', hp.out, ?_⟩, hr, hmc, hfr, hkn⟩
  have hB := h.laid.below
  exact ⟨by rw [hp.os]; exact hB.os, by rw [hp.tape]; exact hB.tape, by rw [hp.output]; exact hB.output, by have := hp.size; omega, fun k hk => by
    rw [hp.kept k (by omega) (by omega) (by omega) (fun e => by have := hown _ e.symm; omega)]; exact hB.block k hk⟩
end

end Go.Proofs.YbulkabjgDoor
