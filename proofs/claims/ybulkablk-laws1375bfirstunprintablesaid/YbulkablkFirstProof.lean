/-
  THE PROOF OF 'Rows.LawS1375BFirstUnprintableSaid': the seat's shell, its walk filled; the two callees by their contracts (YbulkablkScan.lean).
-/
import Derived.Test.YbulkablkRows
import Derived.Test.YbulkablkScan
import Derived.WalkKit
import Derived.ProofKit
import Derived.OpenShut
import Derived.ShutString
namespace Go.Proofs.Ybulkablk.lawS1375BFirstUnprintable
open Go.ChangeShapes Go.WideShapes Go.ChangeAt Go.RowKit
open Go.ChangeMaps (open_string shut_string)
set_option linter.unusedVariables false      -- a walk need not use every 'w<i>' (that an integer argument fits its kind)

theorem own : ownKnob Yba.prog.godebug = none := by kernel_rfl

theorem found_index {s : ByteArray} {r : Int} (h : Found s.data.toList r) :
    (r = -1 ∧ ∀ (i : Nat) (h : i < s.size), pr s[i] = true) ∨ ∃ (k : Nat) (hk : k < s.size), r = (k : Int) ∧ pr s[k] = false ∧ ∀ (i : Nat) (h : i < k), pr (s[i]'(Nat.lt_trans h hk)) = true := by
  have hsz : s.data.toList.length = s.size := by rw [Array.length_toList]; rfl
  have at_i : ∀ (i : Nat) (h : i < s.size), s[i] = s.data.toList[i]'(by omega) := fun i h => by rw [Array.getElem_toList]; rfl
  rcases h with ⟨rfl, hall⟩ | ⟨a, c, b, he, rfl, hc, ha⟩
  · exact Or.inl ⟨rfl, fun i h => hall _ (by rw [at_i i h]; exact List.getElem_mem _)⟩
  · have hk : a.length < s.size := by rw [← hsz, he]; simp
    refine Or.inr ⟨a.length, hk, rfl, ?_, fun i h => ?_⟩
    · rw [at_i _ hk]
      simpa [he] using hc
    · rw [at_i i (Nat.lt_trans h hk)]
      simp only [he, List.getElem_append_left h]
      exact ha _ (List.getElem_mem _)

/-! ### STEP 1: THE WALK: the Go text returns true. 'Grown w w'': the world has at most new blocks (Derived/RowKit3.lean). Part the cases AHEAD of 'go_enter' where a test parts the walk; take each callee by a contract of your own. -/
set_option maxHeartbeats 1000000 in
theorem walk (a0 : ByteArray) (w0 : a0.size ≤ maxLen) (w : World) :
    Calls Yba.prog 3 #[.string a0] w fun e w' => e = .returned (.bool true) ∧ Grown w w' := by
  have hsz : a0.data.toList.length = a0.size := by rw [Array.length_toList]; rfl
  go_enter Yba.func3, Yba.ntmps3
  go_wp2_with fail
  refine (unp_any a0 _ w0).mono ?_
  rintro e w' ⟨r, rfl, rfl, hf⟩
  have hix := found_index hf
  clear hf
  unfold maxLen at w0
  rcases hix with ⟨rfl, hall⟩ | ⟨k, hk, rfl, hc, hall⟩
  · have HA : Hid (∀ (i : Nat) (h : i < a0.size), pr a0[i] = true) := hall
    clear hall
    go_wp2_with fail
    go_loop [4] (fun i => ∃ j : Nat, j ≤ a0.size ∧ i = .int .i64 j) (fun i => a0.size - (intOf i).toNat)
    case atStart => exact ⟨0, Nat.zero_le _, rfl⟩
    case round =>
      obtain ⟨j, hj, rfl⟩ := hrel
      by_cases hlt : j < a0.size
      · go_wp2_with fail
        refine (printable_yes a0[j] _ (HA.out j hlt)).mono ?_
        rintro e w' ⟨rfl, rfl⟩
        go_wp2_with fail
        go_round
        case rel => exact ⟨j + 1, by omega, by go_num⟩
        case measure => simp [intOf]; omega
      · go_wp2_with fail
        go_ret
        exact ⟨rfl, Grown.refl _⟩
  · have HA : Hid (∀ (i : Nat) (h : i < k), pr (a0[i]'(Nat.lt_trans h hk)) = true) := hall
    have HC : Hid (pr a0[k] = false) := hc
    clear hall hc
    have hm : ((k : Int) == -1) = false := by rw [beq_eq_false_iff_ne]; omega
    go_wp2_with fail
    refine (printable_no a0[k] _ HC.out).mono ?_
    rintro e w' ⟨rfl, rfl⟩
    go_wp2_with fail
    go_loop [5] (fun i => ∃ j : Nat, j ≤ k ∧ i = .int .i64 j) (fun i => k - (intOf i).toNat)
    case atStart => exact ⟨0, Nat.zero_le _, rfl⟩
    case round =>
      obtain ⟨j, hj, rfl⟩ := hrel
      by_cases hlt : j < k
      · have hlt2 : j < a0.size := by omega
        go_wp2_with fail
        refine (printable_yes a0[j] _ (HA.out j hlt)).mono ?_
        rintro e w' ⟨rfl, rfl⟩
        go_wp2_with fail
        go_round
        case rel => exact ⟨j + 1, by omega, by go_num⟩
        case measure => simp [intOf]; omega
      · go_wp2_with fail
        go_ret
        exact ⟨rfl, Grown.refl _⟩

/-! ### THE ROW's STEP: WRITTEN OUT: LEAVE IT -/
set_option maxRecDepth 100000 in
theorem lifted (os : Os) (started : os.Started) (H : Type) (enc : TypeId × Value → H) :
    ReturnsInHanded {} Yba.checked os 3 .any (Rows.lawS1375BFirstUnprintableSpec.pre6 enc Yba.prog Yba.f3 Rows.lawS1375BFirstUnprintableRow.domain false) (Rows.lawS1375BFirstUnprintableSpec.post enc Yba.prog Yba.f3 false true false false) := by
  refine returnsInHanded_of_change (C := Yba.checked) own started (by kernel_rfl) Yba.func3
    (ChangeSpec.witness6 (enc := enc) (C := Yba.checked) false ⟨#[], #[.string ByteArray.empty], []⟩ 8 (by kernel_rfl) (by kernel_rfl) (by kernel_rfl) (by kernel_rfl)) ?_
  intro W base args ds gs before hval0 hW hcnd _
  have hval : ∀ (j : Nat) t v, Yba.f3.params[j]? = some t → args[j]? = some v → Value.okWide Yba.prog W .any base t v := hval0
  have hW' := hW
  obtain ⟨p, q, hA0, hV, rfl, hfz, hnd⟩ := hW
  have hA : DataW.TrodAll enc Yba.prog W 0 (fun _ => true) true Yba.f3.params.toList args.toList ds p := hA0
  rw [Yba.params3] at hA hval
  obtain ⟨v0, vs0, d0, ds0, p0, q0, hargs, rfl, rfl, h0, r0⟩ := trodAll_cons hA
  obtain ⟨rfl, rfl, rfl⟩ := trodAll_nil r0
  obtain rfl : args = #[v0] := by cases args; simp_all
  obtain ⟨rfl, rfl⟩ := trodVars_none hV
  obtain ⟨a0, rfl, rfl, rfl, w0⟩ := open_string Yba.underlying9 (hval 0 9 v0 rfl rfl) h0
  clear hA0 hval0
  simp only [List.append_nil] at hW'
  refine (walk a0 w0 W).mono fun e W' ⟨he, hg⟩ => ?_
  subst he
  exact ⟨_, rfl, post_of_same (pa := []) (pv := []) hW' (fun _ _ _ => (trodAll_cons_mk (shut_bool Yba.underlying4 _) trodAll_mk0)) (fun sp _ => (trodAll_cons_mk (shut_string Yba.underlying9 w0) trodAll_mk0)) (fun _ _ => rfl) rfl
    (hg.frame _) hg.2.1 (ok_one (by kernel_rfl) rfl (okWide_bool_mk Yba.underlying4 _))⟩

theorem over : Rows.lawS1375BFirstUnprintableRow.holds Yba.pinned (OpenSpec.ofChange Rows.lawS1375BFirstUnprintableSpec) :=
  OpenClaim.holds_of_wide 3 Yba.f3 rfl rfl rfl rfl rfl rfl rfl ⟨rfl, rfl, rfl, rfl, rfl⟩ rfl rfl rfl rfl rfl (by kernel_rfl) Yba.func3 (by kernel_rfl)
    (of_decide_eq_true (by kernel_rfl)) (by unfold Func.isWrapper; first | (rw [if_pos (by decide +kernel)]; kernel_rfl) | (rw [if_neg (by decide +kernel)]; exact ⟨rfl, rfl⟩))
    (fun os started H enc _ => lifted os started H enc)

/-- ████ THE STATEMENT ████ -/
theorem proved : Rows.LawS1375BFirstUnprintableSaid :=
  over
#print axioms proved
end Go.Proofs.Ybulkablk.lawS1375BFirstUnprintable
