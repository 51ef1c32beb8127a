/-
  THE TOLD AND TIED CARD OF 'LawS1363AVerdict', PROVED: 'Rows.LawS1363AVerdictToldSaid'. The result is a bool: fmt's text is not looked at; the walk holds for every text.
-/
import Derived.Test.YbulkabeyFmtLift
import Derived.Test.YbulkabeyFmtVerdictWalk
namespace Go.Proofs.YbulkabeyFmt
open Go.ChangeShapes Go.WideShapes Go.ChangeAt Go.RowKit Go.Kit
open Go.ChangeMaps (open_string shut_string)
open Go.Extern.Stop Go.Stop Go.Extern

set_option maxRecDepth 100000 in
set_option maxHeartbeats 1000000 in
theorem verdict_lifted (os : Os) (started : os.Started) (H : Type) (enc : TypeId × Value → H) :
    ReturnsInTold none {} Ybaf.checked os 3 .any Input.okWide ((OpenSpec.ofChange Rows.lawS1363AVerdictSpec).preRow enc Ybaf.prog Ybaf.f3 [] false Rows.lawS1363AVerdictRow.laid)
      (fun F => ((OpenSpec.ofChange Rows.lawS1363AVerdictSpec).at F).post enc Ybaf.prog Ybaf.f3 false true false false) (aloneAtReturn Ybaf.prog) nothingAlways := by
  refine returnsInTold_of_row (C := Ybaf.checked) (s := OpenSpec.ofChange Rows.lawS1363AVerdictSpec) (by kernel_rfl) own started (by kernel_rfl) Ybaf.func3
    (OpenSpec.witness_stopped_at (enc := enc) (C := Ybaf.checked) false _ #[.slice none 0 0, .int .i64 0, .string ByteArray.empty] rfl (by kernel_rfl) (by kernel_rfl) (by kernel_rfl)
      (OpenSpec.preRow_of_B rfl 8 (by kernel_rfl) (by kernel_rfl) (laid_met os _))) ?_
  intro F W base args ds gs before _ hF hval0 hW _ _ _ hL _
  have hval : ∀ (j : Nat) t v, Ybaf.f3.params[j]? = some t → args[j]? = some v → Value.okWide Ybaf.prog W .any base t v := hval0
  have hW' := hW
  obtain ⟨p, q, hA0, hV0, rfl, hfz, hnd⟩ := hW
  have hA : DataW.TrodAll enc Ybaf.prog W 0 (fun _ => true) true Ybaf.f3.params.toList args.toList ds p := hA0
  have hV : DataW.TrodVars enc Ybaf.prog W (fun _ => true) [gName] gs q := hV0
  rw [Ybaf.params3] at hA hval
  obtain ⟨v0, vs0, d0, ds0, p0, q0, hargs, rfl, rfl, h0, r0⟩ := trodAll_cons hA
  obtain ⟨v1, vs1, d1, ds1, p1, q1, rfl, rfl, rfl, h1, r1⟩ := trodAll_cons r0
  obtain ⟨v2, vs2, d2, ds2, p2, q2, rfl, rfl, rfl, h2, r2⟩ := trodAll_cons r1
  obtain ⟨rfl, rfl, rfl⟩ := trodAll_nil r2
  obtain rfl : args = #[v0, v1, v2] := by cases args; simp_all
  obtain ⟨a1, s1, hv1, hc1, hs1, hz1⟩ := laid_sentinel hL gE gEType Ybaf.underlying24 row63 Ybaf.underlying63 Ybaf.underlying65 rfl rfl Ybaf.underlying9 cells65 cells9
  obtain ⟨rfl, rfl⟩ := hV.unique (vars_read1 enc gE gEType Ybaf.underlying24 hv1 trivial _)
  obtain ⟨b0, len0, cap0, rfl⟩ := okWide_slice Ybaf.underlying22 (hval 0 22 v0 rfl rfl)
  have k0 := h0
  have lt0 : ∀ x ∈ p0, x.block < W.heap.size := by obtain ⟨m, hm⟩ := k0; exact DataW.trod_lt m _ _ _ hm
  obtain ⟨n, rfl, rfl, rfl, wn⟩ := open_int Ybaf.underlying3 (hval 1 3 v1 rfl rfl) h1
  obtain ⟨nm, rfl, rfl, rfl, w1⟩ := open_string Ybaf.underlying9 (hval 2 9 v2 rfl rfl) h2
  clear hA0 hV0 hval0
  have hg1 : W.cell? ⟨0, 0, none⟩ = some (.iface 63 (.pointer (some a1))) := by simpa using World.var?_cell gE hv1 0
  have h0lt : 0 < W.heap.size := World.block_lt_of_cell? _ _ hg1
  have fin : ∀ (e : Ending) (W' : World), (e = .returned (.bool true) ∧ Below W.heap.size W W') → ∃ v, e = .returned v ∧ ((OpenSpec.ofChange Rows.lawS1363AVerdictSpec).at F.told).post enc Ybaf.checked.prog Ybaf.f3 false true false false W #[.slice b0 len0 cap0, .int .i64 n, .string nm] v W' := by
    rintro e W' ⟨rfl, bel⟩
    refine ⟨_, rfl, _, _, _, [], _, [.cell 0 0], hW', trodAll_mk1 (shut_bool Ybaf.underlying4 _), (trodAll_cons_mk (Below.trod laidOut (by kernel_rfl) (of_decide_eq_true (by kernel_rfl)) k0 bel lt0) (trodAll_cons_mk (shut_int Ybaf.underlying3 wn) (trodAll_cons_mk (shut_string Ybaf.underlying9 w1) trodAll_mk0))), ?_, bel.frame _, fun h => by cases h⟩
    exact vars_read1 enc gE gEType Ybaf.underlying24 (var?_below bel gE h0lt hv1) trivial _
  by_cases hn : (len0 : Int) = n
  · subst hn
    exact (verdict_same b0 len0 cap0 nm W).mono fin
  · exact (verdict_other F.told b0 len0 cap0 n nm a1 s1 W hF (by rw [beq_eq_false_iff_ne]; exact hn) hg1 h0lt (fun o => cell?_alloc_old _ hc1)).mono fin

/-- ████ THE STATEMENT ████ -/
theorem verdict_proved : Rows.LawS1363AVerdictToldSaid :=
  Claim7.holds_of_told_tied_any_at .later 3 Ybaf.f3 "fmt.errorf" [] [] _ _ _ _ _ (by kernel_rfl) rfl rfl rfl laidOut (by kernel_rfl) rfl ⟨rfl, rfl, rfl, rfl, rfl, rfl, rfl⟩ rfl rfl (by kernel_rfl) (by kernel_rfl) Ybaf.func3 (by kernel_rfl)
    (of_decide_eq_true (by kernel_rfl)) (of_decide_eq_true (by kernel_rfl)) stops.symm rfl stopKnobs.symm (by kernel_rfl)
    (by kernel_rfl) (by kernel_rfl) (by kernel_rfl) (by kernel_rfl) (by kernel_rfl) (by kernel_rfl) (by kernel_rfl) (by kernel_rfl) (by kernel_rfl) rfl (by kernel_rfl) rfl rfl
    rfl rfl
    rfl (by kernel_rfl) (by kernel_rfl) (by kernel_rfl) (by decide) (by kernel_rfl) lawS1363AVerdict_row_tie
    (OpenClaim.moreEntering_of (by kernel_rfl) (by kernel_rfl) (by kernel_rfl) (by kernel_rfl) (by kernel_rfl) (by kernel_rfl) (by kernel_rfl) (by kernel_rfl) (by kernel_rfl) (by kernel_rfl))
    ⟨_, WideRow.started_initial, quiet _⟩
    (fun os started _ H enc _ => verdict_lifted os started H enc)
#print axioms verdict_proved
end Go.Proofs.YbulkabeyFmt
