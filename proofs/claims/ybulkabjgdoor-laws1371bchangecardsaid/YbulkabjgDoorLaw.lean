/-
  THE LAW's WALK (function 3): up to the making of the server; the rest by YbulkabjgDoorMid.lean.
-/
import Derived.Test.YbulkabjgDoorMid
namespace Go.Proofs.YbulkabjgDoor
open Go.RowKit

/-- What stands behind the switch over the legs: 's9', 's10' the own leg and the other. -/
def Chosen2 (w wr : World) (i : In) (n : Nat) (s9 s10 : Value) : Prop :=
  ∃ (calling called : Option Addr) (ob tb : Nat) (mo bo mt bt : ByteArray) (a1 a2 ao at_ : Option Addr) (c1 c2 co ct : Nat),
    s9 = .pointer (some ⟨ob, 0, none⟩) ∧ s10 = .pointer (some ⟨tb, 0, none⟩) ∧ OwnIs calling called ob ∧ ob ≠ tb ∧ w.heap.size ≤ ob ∧ ob < w.heap.size + 5 ∧
    LegAt wr ob mo bo (w.heap.size + 2) (.slice ao n co) ∧ LegAt wr tb mt bt (w.heap.size + 2) (.slice at_ n ct) ∧ wr.ownsRow (w.heap.size + 5) 68 2 (.slice ao n co) n (reqs n) ∧
    Laid w wr i n (.pointer calling) (.pointer called) a1 a2 c1 c2
theorem chosen2_la {w wr : World} {i : In} {n : Nat} {called : Option Addr} {a1 a2 : Option Addr} {c1 c2 : Nat} (h : Laid w wr i n (.pointer (some ⟨w.heap.size + 2 + 1, 0, none⟩)) (.pointer called) a1 a2 c1 c2) :
    Chosen2 w wr i n (.pointer (some ⟨w.heap.size + 2 + 1, 0, none⟩)) (.pointer (some ⟨w.heap.size + 2 + 1 + 1, 0, none⟩)) :=
  ⟨_, called, _, _, i.mob, i.bss, i.mob2, i.bss2, a1, a2, a1, a2, c1, c2, c1, c2, rfl, rfl, .inl rfl, by omega, by omega, by omega, h.la, h.lb, h.row1, h⟩
theorem chosen2_lb {w wr : World} {i : In} {n : Nat} {a1 a2 : Option Addr} {c1 c2 : Nat} (h : Laid w wr i n (.pointer none) (.pointer (some ⟨w.heap.size + 2 + 1 + 1, 0, none⟩)) a1 a2 c1 c2) :
    Chosen2 w wr i n (.pointer (some ⟨w.heap.size + 2 + 1 + 1, 0, none⟩)) (.pointer (some ⟨w.heap.size + 2 + 1, 0, none⟩)) :=
  ⟨_, _, _, _, i.mob2, i.bss2, i.mob, i.bss, a1, a2, a2, a1, c1, c2, c2, c1, rfl, rfl, .inr ⟨rfl, rfl⟩, by omega, by omega, by omega, h.lb, h.la, h.row2, h⟩

set_option maxHeartbeats 1000000 in
set_option maxRecDepth 100000 in
theorem law_all (i : In) (gb : Nat) (w : World) (hT : TableAt w gb) (hraw : i.raw.size ≤ maxLen) (hl0 : 0 ≤ i.legs) (hl1 : i.legs ≤ 255) (hs0 : 0 ≤ i.sel) (hs1 : i.sel ≤ 255) (hp0 : 0 ≤ i.prior) (hp1 : i.prior ≤ 255) :
    Calls Ybad.prog 3 #[.agg (inCells i)] w fun e w' => e = .returned (.bool true) ∧ Below w.heap.size w w' := by
  obtain ⟨n, hn, hn7⟩ : ∃ n : Nat, i.prior % 8 = (n : Int) ∧ n ≤ 7 := ⟨(i.prior % 8).toNat, by omega, by omega⟩
  have HT : Hid (TableAt w gb) := hT
  have HW : Hid (i.raw.size ≤ maxLen) := hraw
  clear hT hraw
  go_enter Ybad.func3, Ybad.ntmps3
  go_upto_region 2 with fail
  go_cut [4] from 23 to 28 (fun s4 wr => (∃ ch, s4 = .string ch ∧ ch.size ≤ maxLen) ∧ Start w wr i)
  case first =>
    have h5 : i.sel % 5 = 0 ∨ i.sel % 5 = 1 ∨ i.sel % 5 = 2 ∨ i.sel % 5 = 3 ∨ i.sel % 5 = 4 := by omega
    rcases h5 with h | h | h | h | h <;>
      (go_wp2_with fail
       go_meet
       case rel => exact ⟨⟨_, rfl, by first | exact HW.out | decide⟩, start_of⟩)
  case rest =>
    obtain ⟨⟨ch, rfl, hch⟩, hst⟩ := hcut
    have HCH : Hid (ch.size ≤ maxLen) := hch
    clear hch
    have i0 := hst.arg.c0
    have i1 := hst.arg.c1
    have i4 := hst.arg.c4
    have i5 := hst.arg.c5
    have i6 := hst.arg.c6
    have i7 := hst.arg.c7
    have i11 := hst.arg.c11
    have i14 := hst.arg.c14
    have hsz := hst.size
    have HS : Hid (Start w wc i) := hst
    clear hst
    go_wp2_with fail
    have HL : Hid _ := laid_start HS.out (.cells (callCells i.callID i.peer (.pointer none) (.pointer none) i.rel oldS) 33) (.cells (legCells i.mob i.bss (w.heap.size + 2) (.slice none 0 0)) 39) (.cells (legCells i.mob2 i.bss2 (w.heap.size + 2) (.slice none 0 0)) 39)
    refine (fill_any (w.heap.size + 2 + 1) i.mob i.bss (w.heap.size + 2) n _ hn7 (by exact HL.out.2.2.1)).mono ?_
    rintro e w1 ⟨rfl, v1, hl1', ho1, hg1⟩
    have HF1 : Hid _ := And.intro hl1' (And.intro ho1 hg1)
    clear hl1' ho1 hg1 i0 i1 i4 i5 i6 i7 i11 i14 HS hsz
    go_wp2_with fail
    refine (fill_any (w.heap.size + 2 + 1 + 1) i.mob2 i.bss2 (w.heap.size + 2) n _ hn7 ?_).mono ?_
    · have h := HL.out
      have g := HF1.out.2.2
      exact LegAt.of_block (w := _) h.2.2.2.1 (g.block _ (by rw [h.1]; omega) (by simp))
    rintro e w2 ⟨rfl, v2, hl2', ho2, hg2⟩
    obtain ⟨a1, a2, c1, c2, rfl, rfl, hlaid⟩ := laid_of HL.out.1 HL.out.2.2.2.2.1 HL.out.2.2.2.2.2 HL.out.2.1 HF1.out.1 HF1.out.2.1 HF1.out.2.2 hl2' ho2 hg2
    clear hl2' ho2 hg2 HF1 HL
    have i12 := hlaid.arg.c12
    have HD : Hid (Laid w w2 i n (.pointer none) (.pointer none) a1 a2 c1 c2) := hlaid
    clear hlaid
    go_upto_block 0 with fail
    go_cut [9, 10] from 68 to 90 (fun s9 s10 wr => Chosen2 w wr i n s9 s10)
    case first =>
      have k3 := HD.out.call.c3
      have k4 := HD.out.call.c4
      have f3 := HD.out.call.frozen 3
      have f4 := HD.out.call.frozen 4
      have h3 : i.legs % 3 = 0 ∨ i.legs % 3 = 1 ∨ i.legs % 3 = 2 := by omega
      rcases h3 with h | h | h
      · go_wp2_with fail
        go_meet
        case rel => exact chosen2_la (HD.out.set3 _)
      · go_wp2_with fail
        go_meet
        case rel => exact chosen2_lb (HD.out.set4 _)
      · go_wp2_with fail
        go_meet
        case rel => exact chosen2_la ((HD.out.set3 _).set4 _)
    case rest =>
      obtain ⟨calling, called, ob, tb, mo, bo, mt, bt, a1', a2', ao, at_, c1', c2', co, ct, rfl, rfl, hown, hne, hobN, hob5, hlo, hlt, hrow, hd⟩ := hcut
      have k3 := hd.call.c3
      have k4 := hd.call.c4
      have HC : Hid _ := And.intro hlo (And.intro hlt (And.intro hrow hd))
      have HO : Hid (OwnIs calling called ob) := hown
      clear hown hlo hlt hrow hd HD i12
      go_wp2_with fail
      go_quiet (fail)
      have hall := drawn_all (nq := nq) HC.out
      clear HC k3 k4
      generalize wc.drewN nq = wd at hall ⊢
      have j0 := hall.2.2.2.arg.c0
      have j3 := hall.2.2.2.arg.c3
      have j9 := hall.2.2.2.arg.c9
      have hN0 : w.heap.size < wd.heap.size := by have := hall.2.2.2.size; omega
      have hN1 : w.heap.size < wd.heap.size + 1 := by omega
      have hN2 : w.heap.size < wd.heap.size + 1 + 1 := by omega
      have HC : Hid _ := hall
      clear hall
      have hm42 : ∀ W : World, (Instr.makeMap 42 none).run Ybad.prog W = .ok (.map (some W.heap.size)) (W.alloc (.map #[] 0)) := fun W => run_makeMap 42 W
      have hm43 : ∀ W : World, (Instr.makeMap 43 none).run Ybad.prog W = .ok (.map (some W.heap.size)) (W.alloc (.map #[] 0)) := fun W => run_makeMap 43 W
      have hins : ∀ (s : ByteArray) (val : Value), (Instr.mapUpdate 42 (.map (some wd.heap.size)) (.string s) val).run Ybad.prog (wd.alloc (.map #[] 0)) = .ok () (wd.alloc (.map #[{ key := .string s, val := val, born := 0 }] 1)) := fun s val => run_insert_first wd s val
      go_upto_if 110 with fail
      go_cut [14] from 110 to 112 (fun s14 wr => (∃ mc, s14 = .string mc) ∧ Served w wr i n calling called ob tb (wd.heap.size + 1 + 1) wd.heap.size mo bo mt bt a1' a2' ao at_ c1' c2' co ct)
      case first =>
        cases hsame : i.same <;>
          (go_wp2_with fail
           go_meet
           case rel => exact ⟨⟨_, rfl⟩, served_of HC.out.1 HC.out.2.1 HC.out.2.2.1 HC.out.2.2.2⟩)
      case rest =>
        obtain ⟨⟨mc, rfl⟩, hS⟩ := hcut
        go_step
        exact law_mid i n w _ ch mc mo bo mt bt calling called a1' a2' ao at_ ob tb _ _ gb c1' c2' co ct _ _ _ _ _ _ _ _ _ _ _ _ _ _ _ _ _ _ _ _ _ _ _ _ _ _ _ _ _ _ _ _ _ _ _ _ _ _ _ _ _ _ _ _ _ _ _ _ _ _ _ _ _ _ _ _ _ _ _ _ _ _ _ _ _ _ _ _ _ _ _ _ _ _ _ _ _ _ _ _ _ _ _ _ _ _ _ _ _ _ _ _ _ _ _ _ _ _ _ _ _ _ _ _ _ _ _ _ _ _ _ _ _ _ _ _ _ _ _ _ _ _ _ _ _ _ _ _ _ _ _ _ _ _ _ _ _ _ _ _ _ _ _ _ _ _ _ _ _ _ _ _ _ _ _ _ _ _ _ _ _ _ _ _ _ _ _ _ _ _ _ _ _ _ _ _ _ _ _ _ _ _ _ _ _ _ _ _ _ _ _ _ _ _ _ _ _ _ _ _ _ _ _ _ _ _ _ _ _ _ _ _ _ _ _ _ _ _ _ _ _ _ _ _ _ _ _ _ _ _ _ _ _ _ _ _ _ _ _ _ _ _ _ _ _ _ _ _ _ _ _ _ _ _ _ _ _ _ _ _ _ _ _ _ _ _ _ hn7 hS HO.out hne hobN hob5 HT.out HCH.out
end Go.Proofs.YbulkabjgDoor
