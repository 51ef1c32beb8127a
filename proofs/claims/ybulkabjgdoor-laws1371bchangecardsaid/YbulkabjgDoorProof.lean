/-
  THE PROOF OF 'Rows.LawS1371BChangeCardSaid': the listed table is opened (YbulkabjgDoorTable.lean), the argument too; the walk is YbulkabjgDoorLaw.lean's; the witness starts in the heap that the door's own run leaves.
-/
import Derived.Test.YbulkabjgDoorRows
import Derived.Test.YbulkabjgDoorTie
import Derived.Test.YbulkabjgDoorCards
import Derived.Test.YbulkabjgDoorLaw
import Derived.Test.YbulkabjgDoorTable
import Derived.ProofKit
import Derived.LaidMore
import Derived.OpenShut
import Derived.OpenVars
import Derived.Stop.Joined
import Derived.SevenTiedAt
namespace Go.Proofs.YbulkabjgDoor
open Go.ChangeShapes Go.WideShapes Go.ChangeAt Go.WideMaps Go.WideElems Go.RowKit

theorem own : ownKnob Ybad.prog.godebug = none := by kernel_rfl
theorem laidOut : laidOutB Ybad.prog = true := by kernel_rfl
theorem cells23 : Ybad.prog.cellsOf 23 = 15 := by kernel_rfl
theorem cells9 : Ybad.prog.cellsOf 9 = 1 := by kernel_rfl
theorem cells4 : Ybad.prog.cellsOf 4 = 1 := by kernel_rfl
theorem cells5 : Ybad.prog.cellsOf 5 = 1 := by kernel_rfl

/-- THE ARGUMENT, OPENED. -/
theorem open_in {H : Type} {enc : TypeId × Value → H} {W : World} {base : Nat} {v : Value} {d : DataW H} {ps : List MemPlace} (hval : Value.okWide Ybad.prog W .any base 23 v)
    (hd : DataW.Trod enc Ybad.prog W 0 (fun _ => true) true 23 v d ps) :
    ∃ i : In, v = .agg (inCells i) ∧ i.raw.size ≤ maxLen ∧ 0 ≤ i.legs ∧ i.legs ≤ 255 ∧ 0 ≤ i.sel ∧ i.sel ≤ 255 ∧ 0 ≤ i.prior ∧ i.prior ≤ 255 := by
  obtain ⟨⟨cs⟩, rfl, hsz⟩ := okWide_struct Ybad.underlying23 hval
  rw [cells23] at hsz
  obtain ⟨fuel, hf⟩ := hd
  obtain ⟨xs, n, rfl, _, _, hxs, hat⟩ := DataW.trod_struct Ybad.underlying23 hf
  match cs, hsz with
  | [c0, c1, c2, c3, c4, c5, c6, c7, c8, c9, c10, c11, c12, c13, c14], _ =>
    match xs, hxs with
    | [x0, x1, x2, x3, x4, x5, x6, x7, x8, x9, x10, x11, x12, x13, x14], _ =>
      have q0 : DataW.trod enc Ybad.prog W 0 (fun _ => true) true n 9 (([c0, c1, c2, c3, c4, c5, c6, c7, c8, c9, c10, c11, c12, c13, c14] : List Value).drop 0 |>.take (Ybad.prog.cellsOf 9)) = some x0 := hat 0 _ rfl
      have q1 : DataW.trod enc Ybad.prog W 0 (fun _ => true) true n 9 (([c0, c1, c2, c3, c4, c5, c6, c7, c8, c9, c10, c11, c12, c13, c14] : List Value).drop 1 |>.take (Ybad.prog.cellsOf 9)) = some x1 := hat 1 _ rfl
      have q2 : DataW.trod enc Ybad.prog W 0 (fun _ => true) true n 9 (([c0, c1, c2, c3, c4, c5, c6, c7, c8, c9, c10, c11, c12, c13, c14] : List Value).drop 2 |>.take (Ybad.prog.cellsOf 9)) = some x2 := hat 2 _ rfl
      have q3 : DataW.trod enc Ybad.prog W 0 (fun _ => true) true n 9 (([c0, c1, c2, c3, c4, c5, c6, c7, c8, c9, c10, c11, c12, c13, c14] : List Value).drop 3 |>.take (Ybad.prog.cellsOf 9)) = some x3 := hat 3 _ rfl
      have q4 : DataW.trod enc Ybad.prog W 0 (fun _ => true) true n 9 (([c0, c1, c2, c3, c4, c5, c6, c7, c8, c9, c10, c11, c12, c13, c14] : List Value).drop 4 |>.take (Ybad.prog.cellsOf 9)) = some x4 := hat 4 _ rfl
      have q5 : DataW.trod enc Ybad.prog W 0 (fun _ => true) true n 9 (([c0, c1, c2, c3, c4, c5, c6, c7, c8, c9, c10, c11, c12, c13, c14] : List Value).drop 5 |>.take (Ybad.prog.cellsOf 9)) = some x5 := hat 5 _ rfl
      have q6 : DataW.trod enc Ybad.prog W 0 (fun _ => true) true n 9 (([c0, c1, c2, c3, c4, c5, c6, c7, c8, c9, c10, c11, c12, c13, c14] : List Value).drop 6 |>.take (Ybad.prog.cellsOf 9)) = some x6 := hat 6 _ rfl
      have q7 : DataW.trod enc Ybad.prog W 0 (fun _ => true) true n 9 (([c0, c1, c2, c3, c4, c5, c6, c7, c8, c9, c10, c11, c12, c13, c14] : List Value).drop 7 |>.take (Ybad.prog.cellsOf 9)) = some x7 := hat 7 _ rfl
      have q8 : DataW.trod enc Ybad.prog W 0 (fun _ => true) true n 9 (([c0, c1, c2, c3, c4, c5, c6, c7, c8, c9, c10, c11, c12, c13, c14] : List Value).drop 8 |>.take (Ybad.prog.cellsOf 9)) = some x8 := hat 8 _ rfl
      have q9 : DataW.trod enc Ybad.prog W 0 (fun _ => true) true n 4 (([c0, c1, c2, c3, c4, c5, c6, c7, c8, c9, c10, c11, c12, c13, c14] : List Value).drop 9 |>.take (Ybad.prog.cellsOf 4)) = some x9 := hat 9 _ rfl
      have q10 : DataW.trod enc Ybad.prog W 0 (fun _ => true) true n 4 (([c0, c1, c2, c3, c4, c5, c6, c7, c8, c9, c10, c11, c12, c13, c14] : List Value).drop 10 |>.take (Ybad.prog.cellsOf 4)) = some x10 := hat 10 _ rfl
      have q11 : DataW.trod enc Ybad.prog W 0 (fun _ => true) true n 4 (([c0, c1, c2, c3, c4, c5, c6, c7, c8, c9, c10, c11, c12, c13, c14] : List Value).drop 11 |>.take (Ybad.prog.cellsOf 4)) = some x11 := hat 11 _ rfl
      have q12 : DataW.trod enc Ybad.prog W 0 (fun _ => true) true n 5 (([c0, c1, c2, c3, c4, c5, c6, c7, c8, c9, c10, c11, c12, c13, c14] : List Value).drop 12 |>.take (Ybad.prog.cellsOf 5)) = some x12 := hat 12 _ rfl
      have q13 : DataW.trod enc Ybad.prog W 0 (fun _ => true) true n 5 (([c0, c1, c2, c3, c4, c5, c6, c7, c8, c9, c10, c11, c12, c13, c14] : List Value).drop 13 |>.take (Ybad.prog.cellsOf 5)) = some x13 := hat 13 _ rfl
      have q14 : DataW.trod enc Ybad.prog W 0 (fun _ => true) true n 5 (([c0, c1, c2, c3, c4, c5, c6, c7, c8, c9, c10, c11, c12, c13, c14] : List Value).drop 14 |>.take (Ybad.prog.cellsOf 5)) = some x14 := hat 14 _ rfl
      clear hat hf
      rw [cells9] at q0 q1 q2 q3 q4 q5 q6 q7 q8
      rw [cells4] at q9 q10 q11
      rw [cells5] at q12 q13 q14
      obtain ⟨s0, e0, _, z0⟩ := DataW.trod_string Ybad.underlying9 q0
      obtain ⟨s1, e1, _, z1⟩ := DataW.trod_string Ybad.underlying9 q1
      obtain ⟨s2, e2, _, z2⟩ := DataW.trod_string Ybad.underlying9 q2
      obtain ⟨s3, e3, _, z3⟩ := DataW.trod_string Ybad.underlying9 q3
      obtain ⟨s4, e4, _, z4⟩ := DataW.trod_string Ybad.underlying9 q4
      obtain ⟨s5, e5, _, z5⟩ := DataW.trod_string Ybad.underlying9 q5
      obtain ⟨s6, e6, _, z6⟩ := DataW.trod_string Ybad.underlying9 q6
      obtain ⟨s7, e7, _, z7⟩ := DataW.trod_string Ybad.underlying9 q7
      obtain ⟨s8, e8, _, z8⟩ := DataW.trod_string Ybad.underlying9 q8
      obtain ⟨b9, e9, _⟩ := DataW.trod_bool Ybad.underlying4 q9
      obtain ⟨b10, e10, _⟩ := DataW.trod_bool Ybad.underlying4 q10
      obtain ⟨b11, e11, _⟩ := DataW.trod_bool Ybad.underlying4 q11
      obtain ⟨n12, e12, _, z12⟩ := DataW.trod_int Ybad.underlying5 q12
      obtain ⟨n13, e13, _, z13⟩ := DataW.trod_int Ybad.underlying5 q13
      obtain ⟨n14, e14, _, z14⟩ := DataW.trod_int Ybad.underlying5 q14
      obtain rfl : c0 = .string s0 := (List.cons.inj e0).1
      obtain rfl : c1 = .string s1 := (List.cons.inj e1).1
      obtain rfl : c2 = .string s2 := (List.cons.inj e2).1
      obtain rfl : c3 = .string s3 := (List.cons.inj e3).1
      obtain rfl : c4 = .string s4 := (List.cons.inj e4).1
      obtain rfl : c5 = .string s5 := (List.cons.inj e5).1
      obtain rfl : c6 = .string s6 := (List.cons.inj e6).1
      obtain rfl : c7 = .string s7 := (List.cons.inj e7).1
      obtain rfl : c8 = .string s8 := (List.cons.inj e8).1
      obtain rfl : c9 = .bool b9 := (List.cons.inj e9).1
      obtain rfl : c10 = .bool b10 := (List.cons.inj e10).1
      obtain rfl : c11 = .bool b11 := (List.cons.inj e11).1
      obtain rfl : c12 = .int .u8 n12 := (List.cons.inj e12).1
      obtain rfl : c13 = .int .u8 n13 := (List.cons.inj e13).1
      obtain rfl : c14 = .int .u8 n14 := (List.cons.inj e14).1
      have r12 := bounds_u8 z12
      have r13 := bounds_u8 z13
      have r14 := bounds_u8 z14
      exact ⟨⟨s0, s1, s2, s3, s4, s5, s6, s7, s8, b9, b10, b11, n12, n13, n14⟩, rfl, z8, r12.1, r12.2, r13.1, r13.2, r14.1, r14.2⟩

/-- The door's own heap meets the condition. -/
theorem door_met (os : Os) (args : Array Value) : laidMetH Ybad.prog Rows.lawS1371BChangeRow.laid ((World.doorLaid Ybad.prog 400 os).forCall (fun _ _ => 0) ⟨#[], args, []⟩).memory :=
  laidMetH_of_parts3 (fuel := 8) (laidMet_of_run' 8 (by kernel_rfl) (by kernel_rfl)) (by kernel_rfl) (by kernel_rfl)

set_option maxRecDepth 100000 in
theorem lifted (os : Os) (started : os.Started) (H : Type) (enc : TypeId × Value → H) :
    ReturnsInHanded {} Ybad.checked os 3 .any (fun w args => (Rows.lawS1371BChangeSpec.pre enc Ybad.prog Ybad.f3 [] false w args ∧ laidMetH Ybad.prog Rows.lawS1371BChangeRow.laid w) ∧ sizedMet enc Ybad.prog Ybad.f3 (OpenSpec.ofChange Rows.lawS1371BChangeSpec) false w args)
      (Rows.lawS1371BChangeSpec.post enc Ybad.prog Ybad.f3 false true false false) := by
  refine returnsInHanded_of_change_and (C := Ybad.checked) (X := fun w _ => laidMetH Ybad.prog Rows.lawS1371BChangeRow.laid w) (fun _ _ _ hh h => h.of_heap hh) own started (by kernel_rfl) Ybad.func3
    (ChangeSpec.witness_shaped (enc := enc) (C := Ybad.checked) (os := os) (X := fun w _ => laidMetH Ybad.prog Rows.lawS1371BChangeRow.laid w) false (World.doorLaid Ybad.prog 400 os)
      #[.agg (inCells ⟨⟨#[]⟩, ⟨#[]⟩, ⟨#[]⟩, ⟨#[]⟩, ⟨#[]⟩, ⟨#[]⟩, ⟨#[]⟩, ⟨#[]⟩, ⟨#[]⟩, false, false, false, 0, 0, 0⟩)] 8 rfl (World.shaped_of_RefB (by kernel_rfl) (by kernel_rfl)) (by kernel_rfl) (by kernel_rfl) (by kernel_rfl) (door_met os _)) ?_
  intro W base args ds gs before hval0 hW _ _ hL _
  have hval : ∀ (j : Nat) t v, Ybad.f3.params[j]? = some t → args[j]? = some v → Value.okWide Ybad.prog W .any base t v := hval0
  have hW' := hW
  obtain ⟨p, q, hA0, hV, rfl, hfz, hnd⟩ := hW
  have hA : DataW.TrodAll enc Ybad.prog W 0 (fun _ => true) true Ybad.f3.params.toList args.toList ds p := hA0
  rw [Ybad.params3] at hA hval
  obtain ⟨v0, d0, rfl, rfl, h0⟩ := trodAll_one hA
  obtain ⟨g, t, cs, fuel, d, p', rfl, _⟩ := trodVars_one hV
  have h0k := h0
  have hlt : ∀ x ∈ p, x.block < W.heap.size := fun x hx => by simpa using hW'.lt x (by simp [hx])
  obtain ⟨i, rfl, hraw, a0, a1, b0, b1, c0, c1⟩ := open_in (hval 0 23 v0 rfl rfl) h0
  obtain ⟨gb, hT⟩ := of_laid hL
  refine (law_all i gb W hT hraw a0 a1 b0 b1 c0 c1).mono fun e W' ⟨he, bel⟩ => ?_
  subst he
  exact ⟨_, rfl, _, _, _, [], _, _, hW', trodAll_mk1 (shut_bool Ybad.underlying4 _), trodAll_mk1 (Below.trod laidOut (by kernel_rfl) (of_decide_eq_true (by kernel_rfl)) h0k bel hlt), Below.trodVars laidOut bel (by kernel_rfl) hV, bel.frame _, fun h => by cases h⟩

theorem holds : Rows.LawS1371BChangeSaid :=
  OpenClaim.holds_of_wide 3 Ybad.f3 rfl rfl rfl rfl rfl rfl rfl ⟨rfl, rfl, rfl, rfl, rfl⟩ rfl rfl rfl rfl rfl (by kernel_rfl) Ybad.func3 (by kernel_rfl)
    (of_decide_eq_true (by kernel_rfl)) (by unfold Func.isWrapper; first | (rw [if_pos (by decide +kernel)]; kernel_rfl) | (rw [if_neg (by decide +kernel)]; exact ⟨rfl, rfl⟩))
    (fun os started H enc _ => lifted os started H enc)

/-- ████ THE TIED CARD ████ -/
theorem card_proved : Rows.LawS1371BChangeCardSaid :=
  Claim7.holds_tied_plain_at .later [] [.mapped] true (true, "837cca9e6d35d4b089d573d5f4fa2b5a9d41541234887306deb6dbf8f5eb773d") false
    holds (fun _ h => by cases h) (by kernel_rfl) (fun _ h => by cases h) lawS1371BChange_row_tie rfl ⟨rfl, rfl⟩ (by kernel_rfl) rfl
    (fun f fn hf hfn => by
      obtain rfl : f = 3 := Option.some.inj ((show Ybad.prog.funcNamed Rows.lawS1371BChangeRow.func = some 3 by kernel_rfl).symm.trans hf) |>.symm
      obtain rfl : fn = Ybad.f3 := (Option.some.inj (Ybad.func3.symm.trans hfn)).symm
      exact ⟨by kernel_rfl, fun j t ht => by
        rw [Ybad.params3] at ht
        have hm : t ∈ [23] := by simpa using Array.mem_of_getElem? ht
        have hall : ([23].all fun u => !Ybad.prog.wantsStandIn u) = true := by kernel_rfl
        exact (show Ybad.prog.wantsStandIn t = false by simpa using List.all_eq_true.1 hall t hm)⟩)
    (by kernel_rfl)
#print axioms card_proved
end Go.Proofs.YbulkabjgDoor
