/-
  THE WALKS over '(*call).own' (function 7) and 'control' (function 6).
-/
import Derived.Test.YbulkabjgDoorBase
import Derived.Deep.RegionLaw
import Derived.Deep.WholeRow
import Derived.StillTailTactics
namespace Go.Proofs.YbulkabjgDoor
open Go.RowKit

theorem own_calling (cb : Nat) (a : Addr) (w : World) (h3 : w.cell? ⟨cb, 3, none⟩ = some (.pointer (some a))) :
    Calls Ybad.prog 7 #[.pointer (some ⟨cb, 0, none⟩)] w fun e w' => e = .returned (.pointer (some a)) ∧ w' = w := by
  go_enter Ybad.func7, Ybad.ntmps7
  go_wp2
  go_ret
  exact ⟨rfl, rfl⟩
theorem own_called (cb : Nat) (a : Addr) (w : World) (h3 : w.cell? ⟨cb, 3, none⟩ = some (.pointer none)) (h4 : w.cell? ⟨cb, 4, none⟩ = some (.pointer (some a))) :
    Calls Ybad.prog 7 #[.pointer (some ⟨cb, 0, none⟩)] w fun e w' => e = .returned (.pointer (some a)) ∧ w' = w := by
  go_enter Ybad.func7, Ybad.ntmps7
  go_wp2
  go_ret
  exact ⟨rfl, rfl⟩

section
variable {P : Program} {ops : Array Oper} {rest : List Oper} {o : Oper} {a : Act} {w : World} {K : Act → World → Prop} {Q : Exit → Act → World → Prop} {E : Prop}

/-- append onto a row of the call's own, room or not, as one step of a region that draws. -/
theorem step_append_own
    (hg : o.guard = none) (s x : Operand) (t : TypeId) (hop : o.op = Op.call { callee := Callee.builtin Builtin.append, args := #[s, x], argTypes := #[t, t] })
    (base : Nat) (e : TypeId) (i : TypeInfo) (z : Value) (size bytes : Nat) (h1 : P.underlying t = some (.slice e)) (h2 : P.info? e = some i) (h3 : i.zero = some z) (h4 : i.size = size) (h5 : i.bytes = bytes) (h6 : z.cells.size = size) (h7 : 0 < size)
    (v : Value) (n : Nat) (xs : List Value) (hs : a.eval s = v) (hown : w.ownsRow base e size v n xs)
    (ad : Addr) (m c : Nat) (news : List Value) (hx : a.eval x = .slice (some ad) m c) (hn : news.length = m * size) (hc : ∀ j u, news[j]? = some u → w.cell? (ad.add j) = some u) (h1c : ∀ u ∈ news, u.oneCell' = true)
    (b1 : n + m ≤ maxLen) (b2 : (n + m) * bytes ≤ 140737488355328) (hbase : base ≤ w.heap.size)
    (hK : ∀ v' w', w'.ownsRow base e size v' (n + m) (xs ++ news) → w.grownBy w' v.ownBlock → K (a.put o.dst v') w') :
    if Region.wanted o (yielded ops a.tmps) = true then Oper.wp P o a w K Q else E := by
  have hw : Region.wanted o (yielded ops a.tmps) = true := by simp [Region.wanted, hg]
  rw [if_pos hw]
  obtain ⟨v', w', hrun, r1, r2, _⟩ := run_append_own (P := P) w base t o.type e i z size bytes h1 h2 h3 h4 h5 h6 h7 v n xs hown ad m c news hn hc h1c b1 b2 hbase
  unfold Oper.wp
  simp [execOp, hop, resolve, invoke, builtin, hs, hx, hrun, Result.andThen]
  exact hK v' w' r1 r2

/-- A region that draws its order: a head that only reads, then a tail whose order is forced: the world written as '.drew'. -/
theorem region_still_tail {id : Nat} {l : List Oper} (n : Nat) (hm : P.follows .mixedOrders = true) (hB : Region.lexTailB .any l.toArray n = true)
    (h : wpStill P l.toArray w.drew (fun a' => wpList P l.toArray Q (l.drop n) a' w.drew) (l.take n) a) : (Code.region id l.toArray true).wp P Q a w :=
  wp_region_still_tail n hm hB h

/-- A whole struct stored into a block that is known whole. -/
theorem wp_store_row (old c' : Array Value) (t ty : TypeId) (b : Nat) (x y : Operand) (hgd : o.guard = none) (ho : o.op = .store ty x y) (hx : a.eval x = .pointer (some ⟨b, 0, none⟩)) (hy : a.eval y = .agg c')
    (hw : w.heap[b]? = some (.cells old t (0, 0))) (hi : (P.info? ty).map (·.size) = some c'.size) (hc : old.size = c'.size) (h1 : c'.all (·.oneCell') = true)
    (h : wpList P ops Q rest (a.put o.dst undef) (w.setRow b c')) : wpList P ops Q (o :: rest) a w := by
  refine wpList_plain hgd fun _ hK => ?_
  unfold Oper.wp execOp
  simp only [ho, hx, hy, Instr.storeAt, Instr.sureAddr, Sem.run_bind, Sem.run_pure, Result.andThen_ok, run_storeVar_row w b t ty old c' hw hi hc h1]
  exact hK _ _ h
end

/-- The one result is a struct that lies in a block of its own. -/
theorem results_cell {P : Program} {fn : Func} {slot : Nat} {t : TypeId} {tmps : Array Value} {b : Nat} {c : Array Value} {w : World} {fr : Nat × Nat} {d : TypeDesc} (hr : fn.results = #[.cell slot t]) (hs : tmps.getD slot undef = .pointer (some ⟨b, 0, none⟩))
    (hw : w.heap[b]? = some (.cells c t fr)) (hu : P.underlying t = some d) (hd : (match d with | .struct _ | .array _ _ => true | _ => false) = true) (hi : (P.info? t).map (·.size) = some c.size) :
    (results fn tmps).run P w = .ok (.agg c) w := by
  have hl := run_loadVar_row (P := P) w b t t c fr d hw hu hd hi
  have hs' : tmps[slot]?.getD undef = .pointer (some ⟨b, 0, none⟩) := by simpa using hs
  unfold results
  simp [hr, hs', asAddr, hl]

theorem two_cells {W : World} {c0 c1 : Value} {b : Nat} (hb : b = W.heap.size) : ∀ (j : Nat) (u : Value), [c0, c1][j]? = some u → (W.alloc (.cells #[c0, c1] 68)).cell? ((⟨b, 0, none⟩ : Addr).add j) = some u := by
  subst hb
  intro j u hj
  match j, hj with
  | 0, hj => simp at hj; subst hj; simp [Addr.add]
  | 1, hj => simp at hj; subst hj; simp [Addr.add]

theorem own_some {w : World} {base e size n : Nat} {v : Value} {xs : List Value} (h : w.ownsRow base e size v (n + 1) xs) : ∃ g cap, v = .slice (some ⟨g, 0, none⟩) (n + 1) cap := by
  rcases h.2 with ⟨_, h⟩ | ⟨g, cap, _, h, _⟩
  · omega
  · exact ⟨g, cap, h⟩

/-- The cells of the answer (type 66): to whom, the message's type, its leg, its control; all else at nought. -/
abbrev outCells (bss mob : ByteArray) (ctl : Int) : Array Value :=
  #[.string bss, .int .u8 3, .string mob, .string ⟨#[]⟩, .string ⟨#[]⟩, .string ⟨#[]⟩, .string ⟨#[]⟩, .string ⟨#[]⟩, .string ⟨#[]⟩, .int .u8 0, .int .u8 ctl, .int .u8 0, .bool false, .bool false, .string ⟨#[]⟩, .int .u8 0, .string ⟨#[]⟩, .string ⟨#[]⟩, .string ⟨#[]⟩, .string ⟨#[]⟩, .string ⟨#[]⟩, .string ⟨#[]⟩, .string ⟨#[]⟩, .string ⟨#[]⟩, .string ⟨#[]⟩, .string ⟨#[]⟩, .string ⟨#[]⟩]
abbrev zeroOut : Array Value :=
  #[.string ⟨#[]⟩, .int .u8 0, .string ⟨#[]⟩, .string ⟨#[]⟩, .string ⟨#[]⟩, .string ⟨#[]⟩, .string ⟨#[]⟩, .string ⟨#[]⟩, .string ⟨#[]⟩, .int .u8 0, .int .u8 0, .int .u8 0, .bool false, .bool false, .string ⟨#[]⟩, .int .u8 0, .string ⟨#[]⟩, .string ⟨#[]⟩, .string ⟨#[]⟩, .string ⟨#[]⟩, .string ⟨#[]⟩, .string ⟨#[]⟩, .string ⟨#[]⟩, .string ⟨#[]⟩, .string ⟨#[]⟩, .string ⟨#[]⟩, .string ⟨#[]⟩]
theorem size66 : (Ybad.prog.info? 66).map (·.size) = some 27 := by kernel_rfl

/-- What a call leaves that writes to block b, to block o, and to new ones. -/
def Kept (w w' : World) (b : Nat) (o : Option Nat) : Prop :=
  w'.os = w.os ∧ w'.tape = w.tape ∧ w'.output = w.output ∧ w.heap.size ≤ w'.heap.size ∧ ∀ k, k < w.heap.size → k ≠ b → some k ≠ o → w'.heap[k]? = w.heap[k]?

/-- Behind the append: the leg is as it was; so is all else that was there but the row's own block. -/
theorem after_append {w Wa w1 : World} {b base n : Nat} {mob bss : ByteArray} {cb : Nat} {v : Value} {xs : List Value} (hA : Below w.heap.size w Wa) (hl : LegAt w b mob bss cb v) (hown : w.ownsRow base 68 2 v n xs) (hb : b < base)
    (hgrow : Wa.grownBy w1 v.ownBlock) : LegAt w1 b mob bss cb v ∧ Kept w w1 b v.ownBlock := by
  have hne : ∀ j, v.ownBlock = some j → base ≤ j := fun j hj => (hown.lt j hj).1
  have hsz := hA.size
  have hblk : ∀ k, k < w.heap.size → some k ≠ v.ownBlock → w1.heap[k]? = w.heap[k]? := fun k hk hn => by
    rw [hgrow.block k (by omega) hn, hA.block k hk]
  refine ⟨hl.of_block (hblk b hl.lt (fun e => by have := hne b e.symm; omega)), ?_, ?_, ?_, ?_, fun k hk _ hn => hblk k hk hn⟩
  · rw [hgrow.os]; exact hA.os
  · rw [hgrow.tape]; exact hA.tape
  · rw [hgrow.output]; exact hA.output
  · have := hgrow.size; omega

theorem heap_mid (w : World) (o1 o2 o3 : Obj) : ((((w.alloc o1).alloc o2).drew).alloc o3).heap[w.heap.size + 1]? = some o2 := by
  show (((w.heap.push o1).push o2).push o3)[w.heap.size + 1]? = some o2
  have e1 : ¬ w.heap.size + 1 = w.heap.size + 1 + 1 := by omega
  rw [Array.getElem?_push, Array.size_push, Array.size_push, if_neg e1, Array.getElem?_push, Array.size_push, if_pos rfl]

/-- All that the rest of 'control' wants of the world behind its append. -/
structure Behind (w w1 : World) (b : Nat) (mob bss : ByteArray) (cb base n : Nat) (v : Value) (g cap : Nat) (xs : List Value) : Prop where
  leg : LegAt w1 b mob bss cb v
  kept : Kept w w1 b v.ownBlock
  result : w1.heap[w.heap.size + 1]? = some (.cells zeroOut 66 (0, 0))
  owns : w1.ownsRow base 68 2 (.slice (some ⟨g, 0, none⟩) (n + 1) cap) (n + 1) xs
  res_new : g ≠ w.heap.size + 1

theorem behind {w w1 : World} {b base n g cap : Nat} {mob bss : ByteArray} {cb : Nat} {v : Value} {xs ys : List Value} {o1 o3 : Obj} (hl : LegAt w b mob bss cb v) (hown : w.ownsRow base 68 2 v n xs) (hb : b < base)
    (hgrow : ((((w.alloc o1).alloc (.cells zeroOut 66)).drew).alloc o3).grownBy w1 v.ownBlock) (hown' : w1.ownsRow base 68 2 (.slice (some ⟨g, 0, none⟩) (n + 1) cap) (n + 1) ys) :
    Behind w w1 b mob bss cb base n v g cap ys := by
  have hA : Below w.heap.size w ((((w.alloc o1).alloc (.cells zeroOut 66)).drew).alloc o3) := (((Below.refl _ w).alloc (Nat.le_refl _) _).alloc (by simp) _).drew.alloc (by simp; omega) _
  have h := after_append hA hl hown hb hgrow
  have hr : w1.heap[w.heap.size + 1]? = some (.cells zeroOut 66 (0, 0)) := by
    rw [hgrow.block (w.heap.size + 1) (by simp) (fun e => by have := (hown.lt _ e.symm).2; omega)]
    exact heap_mid w _ _ _
  refine ⟨h.1, h.2, hr, hown', fun e => ?_⟩
  subst e
  rcases hown'.2 with ⟨h', _⟩ | ⟨g', cap', cur, h', _, hg, _⟩
  · simp at h'
  · simp only [Value.slice.injEq, Option.some.injEq, Addr.mk.injEq, and_true, true_and] at h'
    obtain ⟨rfl, rfl⟩ := h'
    rw [hr] at hg
    simp at hg

theorem setRow_other (w : World) (g k : Nat) (cs : Array Value) (h : k ≠ g) : (w.setRow g cs).heap[k]? = w.heap[k]? := by
  simp only [World.setRow, Array.getElem?_modify]
  rw [if_neg (by omega)]

/-- The end of 'control': the leg's controls are set, the answer's cells are laid. -/
theorem control_end {w w1 : World} {b base n g cap : Nat} {mob bss : ByteArray} {cb : Nat} {v : Value} {xs : List Value} (ctl : Int) (h : Behind w w1 b mob bss cb base n v g cap xs) (hb : b < base) (hbw : b < w.heap.size) :
    (((w1.setCell ⟨b, 5, none⟩ (.slice (some ⟨g, 0, none⟩) (n + 1) cap)).drew).setRow (w.heap.size + 1) (outCells bss mob ctl)).heap[w.heap.size + 1]? = some (.cells (outCells bss mob ctl) 66 (0, 0)) ∧
    (∃ v', LegAt (((w1.setCell ⟨b, 5, none⟩ (.slice (some ⟨g, 0, none⟩) (n + 1) cap)).drew).setRow (w.heap.size + 1) (outCells bss mob ctl)) b mob bss cb v' ∧
      (((w1.setCell ⟨b, 5, none⟩ (.slice (some ⟨g, 0, none⟩) (n + 1) cap)).drew).setRow (w.heap.size + 1) (outCells bss mob ctl)).ownsRow base 68 2 v' (n + 1) xs ∧
      Kept w (((w1.setCell ⟨b, 5, none⟩ (.slice (some ⟨g, 0, none⟩) (n + 1) cap)).drew).setRow (w.heap.size + 1) (outCells bss mob ctl)) b v.ownBlock) := by
  have hsame : ∀ k, k ≠ b → k ≠ w.heap.size + 1 → (((w1.setCell ⟨b, 5, none⟩ (.slice (some ⟨g, 0, none⟩) (n + 1) cap)).drew).setRow (w.heap.size + 1) (outCells bss mob ctl)).heap[k]? = w1.heap[k]? := fun k h1 h2 => by
    rw [setRow_other _ _ _ _ h2]
    exact Below.heap_setCell w1 ⟨b, 5, none⟩ _ k h1
  have hres : ((w1.setCell ⟨b, 5, none⟩ (.slice (some ⟨g, 0, none⟩) (n + 1) cap)).drew).heap[w.heap.size + 1]? = some (.cells zeroOut 66 (0, 0)) := by
    have := Below.heap_setCell w1 ⟨b, 5, none⟩ (.slice (some ⟨g, 0, none⟩) (n + 1) cap) (w.heap.size + 1) (by show w.heap.size + 1 ≠ b; omega)
    exact this.trans h.result
  refine ⟨setRow_heap _ _ _ _ _ _ hres, .slice (some ⟨g, 0, none⟩) (n + 1) cap, (h.leg.set _).of_block ?_, ⟨h.owns.1, ?_⟩, ?_, ?_, ?_, ?_, fun k hk h1 h2 => ?_⟩
  · exact setRow_other _ _ _ _ (by omega)
  · rcases h.owns.2 with hn | ⟨g', cap', cur, hv, hg, hh, rest⟩
    · exact .inl hn
    · refine .inr ⟨g', cap', cur, hv, hg, ?_, rest⟩
      have e := hv
      simp only [Value.slice.injEq, Option.some.injEq, Addr.mk.injEq, and_true, true_and] at e
      rw [hsame g' (by omega) (by rw [← e.1]; exact h.res_new)]
      exact hh
  · exact h.kept.1
  · exact h.kept.2.1
  · exact h.kept.2.2.1
  · have := h.kept.2.2.2.1
    simpa [World.setCell] using this
  · rw [hsame k h1 (by omega)]; exact h.kept.2.2.2.2 k hk h1 h2

set_option maxHeartbeats 1000000 in
set_option maxRecDepth 100000 in
theorem control_any (b : Nat) (mob bss : ByteArray) (cb n base : Nat) (v : Value) (xs : List Value) (ctl : Int) (ch fr : ByteArray) (w : World) (hn : n ≤ 7) (hl : LegAt w b mob bss cb v) (hown : w.ownsRow base 68 2 v n xs) (hb : b < base) (hbase : base ≤ w.heap.size) :
    Calls Ybad.prog 6 #[.pointer (some ⟨b, 0, none⟩), .int .u8 ctl, .agg #[.string ch, .string fr]] w fun e w' => e = .returned (.agg (outCells bss mob ctl)) ∧
      ∃ v', LegAt w' b mob bss cb v' ∧ w'.ownsRow base 68 2 v' (n + 1) (xs ++ [.string ch, .string fr]) ∧ Kept w w' b v.ownBlock := by
  obtain ⟨i0, hi, hz0, hz1, hz2⟩ := info_parts info68
  have hbw := hl.lt
  have hb1 : b < w.heap.size + 1 := by omega
  have hb2 : b < w.heap.size + 1 + 1 := by omega
  have c5 := hl.controls
  have f5 := hl.frozen 5
  have HL : Hid (LegAt w b mob bss cb v) := hl
  have HO : Hid (w.ownsRow base 68 2 v n xs) := hown
  clear hl hown
  go_enter Ybad.func6, Ybad.ntmps6
  go_wp2_with fail
  go_region_law (refine step_append_own rfl (.tmp 11) (.tmp 13) 35 rfl base 68 i0 (.agg #[.string ⟨#[]⟩, .string ⟨#[]⟩]) 2 32 Ybad.underlying35 hi hz0 hz1 hz2 rfl (by decide) v n xs (by simp [Act.eval]) (by exact ((HO.out.alloc _).alloc _).drew.alloc _) ⟨w.heap.size + 1 + 1, 0, none⟩ 1 1 [.string ch, .string fr] (by simp [Act.eval]) rfl (by exact two_cells (by simp)) (by intro u hu; simp at hu; rcases hu with rfl | rfl <;> rfl) (by unfold maxLen; omega) (by omega) (by simp; omega) ?_; intro v' w1 hown' hgrow; obtain ⟨g, cap, rfl⟩ := own_some hown'; have R := behind HL.out HO.out hb hgrow hown'; have k5 := R.leg.controls; have e5 := R.leg.frozen 5; have m0 := R.leg.mob; have m1 := R.leg.bss; have HR : Hid (Behind w w1 b mob bss cb base n v g cap (xs ++ [.string ch, .string fr])) := R; clear R hown' hgrow)
  all_goals
    go_wp2_with fail
    refine region_still_tail 13 (by kernel_rfl) (by kernel_rfl) ?_
    simp only [List.take_succ_cons, List.take_zero, List.drop_succ_cons, List.drop_zero]
    repeat still_step
    refine wpStill_nil ?_
    have E := control_end ctl HR.out hb hbw
    have HE : Hid _ := E
    clear E
    refine wp_store_row zeroOut (outCells bss mob ctl) 66 66 (w.heap.size + 1) (.tmp 6) (.tmp 29) rfl rfl (by go_simp) (by go_simp) ?_ (size66.trans (by simp)) (by simp) (by simp [Value.oneCell']) ?_
    · have := Below.heap_setCell w1 ⟨b, 5, none⟩ (.slice (some ⟨g, 0, none⟩) (n + 1) cap) (w.heap.size + 1) (by show w.heap.size + 1 ≠ b; omega)
      exact this.trans HR.out.result
    go_wp2_with fail
    exact bodyPost_ret (v := .agg (outCells bss mob ctl)) (results_cell rfl rfl HE.out.1 Ybad.underlying66 rfl (size66.trans (by simp))) rfl ⟨rfl, HE.out.2⟩

end Go.Proofs.YbulkabjgDoor
