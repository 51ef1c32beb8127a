/-
  WHAT THE LISTED TABLE GIVES THE WALKS ('TableAt'), and the argument opened: fifteen fields.
-/
import Derived.Test.YbulkabjgDoorTail
import Derived.ProofKit
import Derived.LaidMore
import Derived.OpenShut
import Derived.Stop.Joined
import Derived.Laws.IdiomMaps
namespace Go.Proofs.YbulkabjgDoor
open Go.ChangeShapes Go.WideShapes Go.ChangeAt Go.WideMaps Go.WideElems Go.RowKit

def gName : String := Rows.lawS1371BChangeSpec.vars.headD Rows.lawS1371BChangeSpec.name
theorem gTable : Ybad.prog.globalNamed gName = some 0 := by kernel_rfl
theorem tTable : (Ybad.prog.globals[0]?).map (·.type) = some 71 := by kernel_rfl
theorem keyLaw : KeyLaw Ybad.prog 24 := string_law Ybad.underlying24

/-- What the listed datum answers at a change, as 'ctlOf' and 'knownB' say. -/
theorem datum_hit (ch : ByteArray) (z : DataW Unit) : (Rows.laid_example_com_shortloop_shortloop_msc_changeControls : DataW Unit).atKey (.string ch.data.toList) z = if knownB ch = true then .lit (.int .u8 (ctlOf ch)) else z := by
  have e : ch.data.toList = ch.toList := (ByteArray.toList_eq ch).symm
  rw [e]
  unfold knownB ctlOf Rows.laid_example_com_shortloop_shortloop_msc_changeControls DataW.atKey
  by_cases h1 : ch.toList = [114, 101, 108, 101, 97, 115, 101, 45, 102, 111, 114, 45, 104, 97, 110, 100, 111, 118, 101, 114]
  · rw [h1]; rfl
  by_cases h2 : ch.toList = [100, 108, 45, 100, 97, 116, 97, 45, 97, 102, 116, 101, 114, 45, 104, 97, 110, 100, 111, 118, 101, 114]
  · rw [h2]; rfl
  by_cases h3 : ch.toList = [114, 101, 108, 101, 97, 115, 101]
  · rw [h3]; rfl
  have b1 := beq_false_of_ne (Ne.symm h1)
  have b2 := beq_false_of_ne (Ne.symm h2)
  have b3 := beq_false_of_ne (Ne.symm h3)
  simp only [List.find?, Lit.sameKey, b1, b2, b3]
  simp [h1, h2, h3]

theorem ctl_none {ch : ByteArray} (h : knownB ch = false) : ctlOf ch = 0 := by
  simp only [knownB, decide_eq_false_iff_not, not_or] at h
  simp [ctlOf, h.1, h.2.1, h.2.2]

/-- WHAT THE CONDITION GIVES THE WALKS. -/
theorem of_laid {W : World} (h : laidMetH Ybad.prog Rows.lawS1371BChangeRow.laid W) : ∃ gb, TableAt W gb := by
  rw [MakeChecks.laidMetH_plain _ _ _ (by kernel_rfl)] at h
  obtain ⟨ps, ⟨g0, t0, cs0, f0, p0, q0, hg0, ht0, hv0, hd0, _, _⟩, _, _⟩ := h
  obtain rfl := Option.some.inj (gTable.symm.trans hg0)
  obtain rfl := Option.some.inj (tTable.symm.trans ht0)
  rcases open_map Ybad.underlying71 hd0 with ⟨_, hx⟩ | ⟨bm, es, clock, m, rfl, hcs, hb, _, F, hx⟩
  · simp [Rows.laid_example_com_shortloop_shortloop_msc_changeControls] at hx
  simp only [Prod.mk.injEq] at hx
  have hcell : W.cell? ⟨0, 0, none⟩ = some (.map (some bm)) := by
    have := World.var?_cell hg0 hv0 0
    rw [Array.eq_one_of_toList hcs] at this
    simpa using this
  have hlt : bm < W.heap.size := (Array.getElem?_eq_some_iff.1 hb).1
  refine ⟨bm, hcell, hlt, by omega, fun ch W' hch hW' => ?_⟩
  have hb' : W'.heap[bm]? = some (.map es clock) := hW'.trans hb
  have zero : (zeroValue 56).run Ybad.prog W' = .ok (.int .u8 0) W' := by kernel_rfl
  rcases fit_lookup_ok (w := W') keyLaw Ybad.underlying71 zero hb' F (keyOf_string_mk (s := ch) Ybad.underlying24 hch) with ⟨hrun, hat⟩ | ⟨v, y, hrun, hRv, hat, _⟩
  · have a1 := hat (.lit (.bool true))
    rw [← hx.1, datum_hit] at a1
    cases hk : knownB ch with
    | true =>
      rw [hk] at a1
      simp at a1
    | false =>
      rw [ctl_none hk]
      exact hrun
  · obtain ⟨r, rfl, rfl, _⟩ := elemAt_int Ybad.underlying56 hRv
    have a1 := hat .nil
    rw [← hx.1, datum_hit] at a1
    cases hk : knownB ch with
    | true =>
      rw [hk] at a1
      simp at a1
      rw [a1]
      exact hrun
    | false =>
      rw [hk] at a1
      simp at a1
end Go.Proofs.YbulkabjgDoor
