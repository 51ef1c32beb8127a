/-
  WHAT THE LAW's WALK CARRIES, FURTHER: the server and its map of calls; the answers of the look-ups.
-/
import Derived.Test.YbulkabjgDoorLaw0
import Derived.WideMake
import Derived.Carry
namespace Go.Proofs.YbulkabjgDoor
open Go.RowKit

theorem owns_of_below {w w' : World} {base e size n : Nat} {v : Value} {xs : List Value} (h : w.ownsRow base e size v n xs) (hb : Below w.heap.size w w') : w'.ownsRow base e size v n xs := by
  refine ⟨h.1, ?_⟩
  rcases h.2 with hn | ⟨g, cap, cur, hv, hg, hh, rest⟩
  · exact .inl hn
  · exact .inr ⟨g, cap, cur, hv, hg, (hb.block g (Array.getElem?_eq_some_iff.1 hh).1).trans hh, rest⟩

theorem Laid.on {w wc W : World} {i : In} {n : Nat} {calling called : Value} {a1 a2 : Option Addr} {c1 c2 : Nat} (h : Laid w wc i n calling called a1 a2 c1 c2) (hb : Below wc.heap.size wc W) : Laid w W i n calling called a1 a2 c1 c2 :=
  ⟨h.arg.of_block (hb.block _ h.arg.lt), h.call.of_block (hb.block _ h.call.lt), h.la.of_block (hb.block _ h.la.lt), h.lb.of_block (hb.block _ h.lb.lt), owns_of_below h.row1 hb, owns_of_below h.row2 hb,
    h.below.trans (hb.mono (by have := h.size; omega)), by have := hb.size; have := h.size; omega⟩

/-- The one entry of the server's map of calls. -/
abbrev theCall (w : World) (i : In) : MapEntry := { key := .string i.callID, val := .pointer (some ⟨w.heap.size + 2, 0, none⟩), born := 0 }

/-- What stands when the server is made. -/
structure Served (w wr : World) (i : In) (n : Nat) (calling called : Option Addr) (ob tb sb mb : Nat) (mo bo mt bt : ByteArray) (a1 a2 ao at_ : Option Addr) (c1 c2 co ct : Nat) : Prop where
  laid : Laid w wr i n (.pointer calling) (.pointer called) a1 a2 c1 c2
  own : LegAt wr ob mo bo (w.heap.size + 2) (.slice ao n co)
  oth : LegAt wr tb mt bt (w.heap.size + 2) (.slice at_ n ct)
  row : wr.ownsRow (w.heap.size + 5) 68 2 (.slice ao n co) n (reqs n)
  srv : wr.cell? ⟨sb, 3, none⟩ = some (.map (some mb))
  map : wr.heap[mb]? = some (.map #[theCall w i] 1)
  sb_lt : sb < wr.heap.size

theorem Served.mb_lt {w wr : World} {i : In} {n : Nat} {calling called : Option Addr} {ob tb sb mb : Nat} {mo bo mt bt : ByteArray} {a1 a2 ao at_ : Option Addr} {c1 c2 co ct : Nat}
    (h : Served w wr i n calling called ob tb sb mb mo bo mt bt a1 a2 ao at_ c1 c2 co ct) : mb < wr.heap.size := (Array.getElem?_eq_some_iff.1 h.map).1

abbrev srvCells (m l : Value) : Array Value := #[.pointer none, .string ⟨#[]⟩, .bool false, m, l, .slice none 0 0, .string ⟨#[]⟩, .int .i64 0, .int .i64 0, .nilIface]

theorem served_of {w wc : World} {i : In} {n : Nat} {calling called : Option Addr} {ob tb : Nat} {mo bo mt bt : ByteArray} {a1 a2 ao at_ : Option Addr} {c1 c2 co ct : Nat} {o2 : Obj} {l : Value}
    (hlo : LegAt wc ob mo bo (w.heap.size + 2) (.slice ao n co)) (hlt : LegAt wc tb mt bt (w.heap.size + 2) (.slice at_ n ct)) (hrow : wc.ownsRow (w.heap.size + 5) 68 2 (.slice ao n co) n (reqs n))
    (hd : Laid w wc i n (.pointer calling) (.pointer called) a1 a2 c1 c2) :
    Served w (((wc.alloc (.map #[theCall w i] 1)).alloc o2).alloc (.cells (srvCells (.map (some wc.heap.size)) l) 50)) i n calling called ob tb (wc.heap.size + 1 + 1) wc.heap.size mo bo mt bt a1 a2 ao at_ c1 c2 co ct := by
  have hb : Below wc.heap.size wc (((wc.alloc (.map #[theCall w i] 1)).alloc o2).alloc (.cells (srvCells (.map (some wc.heap.size)) l) 50)) :=
    (((Below.refl _ wc).alloc (Nat.le_refl _) _).alloc (by show _ ≤ (wc.heap.push _).size; simp) _).alloc (by show _ ≤ ((wc.heap.push _).push _).size; simp; omega) _
  have e : (((wc.alloc (.map #[theCall w i] 1)).alloc o2).alloc (.cells (srvCells (.map (some wc.heap.size)) l) 50)).heap = ((wc.heap.push (.map #[theCall w i] 1)).push o2).push (.cells (srvCells (.map (some wc.heap.size)) l) 50) := rfl
  refine ⟨hd.on hb, hlo.of_block (hb.block _ hlo.lt), hlt.of_block (hb.block _ hlt.lt), owns_of_below hrow hb, ?_, ?_, by rw [e]; simp⟩
  · rw [cell_of_row _ (wc.heap.size + 1 + 1) 3 (srvCells (.map (some wc.heap.size)) l) 50 (0, 0) (by rw [e, Array.getElem?_push, Array.size_push, Array.size_push, if_pos rfl])]
    rfl
  · rw [e, Array.getElem?_push, Array.size_push, Array.size_push, if_neg (by omega), Array.getElem?_push, Array.size_push, if_neg (by omega), Array.getElem?_push, if_pos rfl]

/-- Behind a draw all of it stands. -/
theorem drawn_all {w wc : World} {i : In} {n nq : Nat} {calling called : Option Addr} {ob tb : Nat} {mo bo mt bt : ByteArray} {a1 a2 ao at_ : Option Addr} {c1 c2 co ct : Nat}
    (h : LegAt wc ob mo bo (w.heap.size + 2) (.slice ao n co) ∧ LegAt wc tb mt bt (w.heap.size + 2) (.slice at_ n ct) ∧ wc.ownsRow (w.heap.size + 5) 68 2 (.slice ao n co) n (reqs n) ∧ Laid w wc i n (.pointer calling) (.pointer called) a1 a2 c1 c2) :
    LegAt (wc.drewN nq) ob mo bo (w.heap.size + 2) (.slice ao n co) ∧ LegAt (wc.drewN nq) tb mt bt (w.heap.size + 2) (.slice at_ n ct) ∧ (wc.drewN nq).ownsRow (w.heap.size + 5) 68 2 (.slice ao n co) n (reqs n) ∧ Laid w (wc.drewN nq) i n (.pointer calling) (.pointer called) a1 a2 c1 c2 :=
  ⟨h.1, h.2.1, h.2.2.1, h.2.2.2.on (below_drewN (Below.refl _ _))⟩

/-- The first entry of a new map. -/
theorem run_insert_first (W : World) (s : ByteArray) (val : Value) : (Instr.mapUpdate 42 (.map (some W.heap.size)) (.string s) val).run Ybad.prog (W.alloc (.map #[] 0)) = .ok () (W.alloc (.map #[{ key := .string s, val := val, born := 0 }] 1)) := by
  rw [run_mapUpdate_first (P := Ybad.prog) (W.alloc (.map #[] 0)) 42 9 26 W.heap.size 0 s val Ybad.underlying42 Ybad.underlying9 (heap_alloc_last W _)]
  congr 1
  show ({ W.alloc (.map #[] 0) with heap := (W.heap.push (.map #[] 0)).setIfInBounds W.heap.size _ } : World) = { W with heap := W.heap.push _ }
  have : (W.heap.push (.map #[] 0)).setIfInBounds W.heap.size (.map #[{ key := .string s, val := val, born := 0 }] (0 + 1)) = W.heap.push (.map #[{ key := .string s, val := val, born := 0 }] 1) := by
    apply Array.ext_getElem?
    intro k
    rw [Array.getElem?_setIfInBounds, Array.getElem?_push, Array.getElem?_push]
    by_cases h : W.heap.size = k
    · subst h; simp
    · have h' : ¬ k = W.heap.size := fun e => h e.symm
      simp [h, h']
  rw [this]
  rfl

end Go.Proofs.YbulkabjgDoor
