/-
  THE WALK over 'LawS1371CModel' (function 3), at the second end of the call: seven ways each, by the message's type, change, status and the flag that is awaited.
-/
import Derived.Test.YbulkabjgPicks
import Derived.Test.YbulkabjgWhole
import Derived.Test.YbulkabjgKeep
import Derived.Deep.QuietTactic
import Derived.BigQuiet
namespace Go.Proofs.Ybulkabjg
open Go.RowKit

theorem grown_drewN' {W w' : World} {n : Nat} (h : Grown W w') : Grown W (w'.drewN n) := h

set_option maxHeartbeats 4000000 in
set_option maxRecDepth 100000 in
theorem model1 (n0 n5 n6 n7 : Int) (k0 u0 k1 u1 : Bool) (r8 r9 e0 e1 : ByteArray) (w : World) (h0 : 0 ≤ n0) (h0' : n0 ≤ 255) (h5 : 0 ≤ n5) (h5' : n5 ≤ 255) (h6 : 0 ≤ n6) (h6' : n6 ≤ 255) (h7 : 0 ≤ n7) (h7' : n7 ≤ 255) (he : n0 % 2 = 1) :
    Calls Yba.prog 3 #[.int .u8 n0, .bool k0, .bool u0, .bool k1, .bool u1, .int .u8 n5, .int .u8 n6, .int .u8 n7, .string r8, .string r9, .string e0, .string e1] w fun e w' => e = .returned (.bool true) ∧ Grown w w' := by
  go_enter Yba.func3, Yba.ntmps3
  go_wp2_with fail
  refine (type_any _ _ h5 h5').mono ?_
  rintro e w' ⟨t, rfl, rfl⟩
  go_wp2_with fail
  refine (change_any _ _ _ h6 h6').mono ?_
  rintro e w' ⟨ch, rfl, rfl⟩
  go_wp2_with fail
  refine (status_any _ _ _ h7 h7').mono ?_
  rintro e w' ⟨st, rfl, rfl⟩
  by_cases t27 : t = 27
  · subst t27
    by_cases hc : ch.toList = [114, 101, 108, 101, 97, 115, 101]
    · cases k1 with
      | false =>
        go_wp2_with (first
          | (with_reducible refine wp_store_new _ (mc 27 ch st) 50 (w.heap.size + 1) (.tmp 27) (.tmp 54) ?_ ?_ ?_ ?_ ?_ ?_ ?_ ?_ ?_; rfl; rfl; simp; go_simp; go_simp; (exact size50.trans (by simp [mc])); (simp [mc]); (simp [mc, Value.oneCell']); simp only [mc])
          | (with_reducible refine wp_load_whole (mc 27 ch st) 50 _ (w.heap.size + 1) (0, 0) (.tmp 27) ?_ ?_ ?_ ?_ Yba.underlying50 rfl (size50.trans (by simp [mc])) ?_; rfl; rfl; go_simp; (exact heap_mid _ _ _ _)))
        refine (keep_noack1 w.heap.size u1 ch st _ (by simp; omega) (by go_simp) (by go_simp) (by go_simp) (by go_simp) hc).mono ?_
        rintro e w' ⟨rfl, rfl⟩
        go_wp2_with fail
        go_quiet (fail)
        go_wp2
        go_ret
        exact ⟨rfl, by repeat (first | exact Grown.refl _ | apply grown_drewN' | apply Grown.alloc)⟩
      | true =>
        go_wp2_with (first
          | (with_reducible refine wp_store_new _ (mc 27 ch st) 50 (w.heap.size + 1) (.tmp 27) (.tmp 54) ?_ ?_ ?_ ?_ ?_ ?_ ?_ ?_ ?_; rfl; rfl; simp; go_simp; go_simp; (exact size50.trans (by simp [mc])); (simp [mc]); (simp [mc, Value.oneCell']); simp only [mc])
          | (with_reducible refine wp_load_whole (mc 27 ch st) 50 _ (w.heap.size + 1) (0, 0) (.tmp 27) ?_ ?_ ?_ ?_ Yba.underlying50 rfl (size50.trans (by simp [mc])) ?_; rfl; rfl; go_simp; (exact heap_mid _ _ _ _)))
        refine (keep_ack1 w.heap.size u1 ch st _ (by simp; omega) (by go_simp) (by go_simp) (by go_simp) (by go_simp) hc).mono ?_
        rintro e w' ⟨rfl, rfl⟩
        go_wp2_with fail
        go_quiet (fail)
        go_wp2
        go_ret
        exact ⟨rfl, by repeat (first | exact Grown.refl _ | apply grown_drewN' | apply Grown.alloc)⟩
    ·
      go_wp2_with (first
        | (with_reducible refine wp_store_new _ (mc 27 ch st) 50 (w.heap.size + 1) (.tmp 27) (.tmp 54) ?_ ?_ ?_ ?_ ?_ ?_ ?_ ?_ ?_; rfl; rfl; simp; go_simp; go_simp; (exact size50.trans (by simp [mc])); (simp [mc]); (simp [mc, Value.oneCell']); simp only [mc])
        | (with_reducible refine wp_load_whole (mc 27 ch st) 50 _ (w.heap.size + 1) (0, 0) (.tmp 27) ?_ ?_ ?_ ?_ Yba.underlying50 rfl (size50.trans (by simp [mc])) ?_; rfl; rfl; go_simp; (exact heap_mid _ _ _ _)))
      refine (keep_ch1 w.heap.size k1 u1 ch st _ (by simp; omega) (by go_simp) (by go_simp) (by go_simp) (by go_simp) hc).mono ?_
      rintro e w' ⟨rfl, rfl⟩
      go_wp2_with fail
      go_quiet (fail)
      go_wp2
      go_ret
      exact ⟨rfl, by repeat (first | exact Grown.refl _ | apply grown_drewN' | apply Grown.alloc)⟩
  · have h27 : (t == 27) = false := by simpa using t27
    clear t27
    by_cases t28 : t = 28
    · subst t28
      clear h27
      by_cases hc : st.toList = [110, 111, 116, 45, 99, 111, 110, 110, 101, 99, 116, 101, 100]
      · cases u1 with
        | false =>
          go_wp2_with (first
            | (with_reducible refine wp_store_new _ (mc 28 ch st) 50 (w.heap.size + 1) (.tmp 27) (.tmp 54) ?_ ?_ ?_ ?_ ?_ ?_ ?_ ?_ ?_; rfl; rfl; simp; go_simp; go_simp; (exact size50.trans (by simp [mc])); (simp [mc]); (simp [mc, Value.oneCell']); simp only [mc])
            | (with_reducible refine wp_load_whole (mc 28 ch st) 50 _ (w.heap.size + 1) (0, 0) (.tmp 27) ?_ ?_ ?_ ?_ Yba.underlying50 rfl (size50.trans (by simp [mc])) ?_; rfl; rfl; go_simp; (exact heap_mid _ _ _ _)))
          refine (keep_noupd1 w.heap.size k1 ch st _ (by simp; omega) (by go_simp) (by go_simp) (by go_simp) (by go_simp) hc).mono ?_
          rintro e w' ⟨rfl, rfl⟩
          go_wp2_with fail
          go_quiet (fail)
          go_wp2
          go_ret
          exact ⟨rfl, by repeat (first | exact Grown.refl _ | apply grown_drewN' | apply Grown.alloc)⟩
        | true =>
          go_wp2_with (first
            | (with_reducible refine wp_store_new _ (mc 28 ch st) 50 (w.heap.size + 1) (.tmp 27) (.tmp 54) ?_ ?_ ?_ ?_ ?_ ?_ ?_ ?_ ?_; rfl; rfl; simp; go_simp; go_simp; (exact size50.trans (by simp [mc])); (simp [mc]); (simp [mc, Value.oneCell']); simp only [mc])
            | (with_reducible refine wp_load_whole (mc 28 ch st) 50 _ (w.heap.size + 1) (0, 0) (.tmp 27) ?_ ?_ ?_ ?_ Yba.underlying50 rfl (size50.trans (by simp [mc])) ?_; rfl; rfl; go_simp; (exact heap_mid _ _ _ _)))
          refine (keep_upd1 w.heap.size k1 ch st _ (by simp; omega) (by go_simp) (by go_simp) (by go_simp) (by go_simp) hc).mono ?_
          rintro e w' ⟨rfl, rfl⟩
          go_wp2_with fail
          go_quiet (fail)
          go_wp2
          go_ret
          exact ⟨rfl, by repeat (first | exact Grown.refl _ | apply grown_drewN' | apply Grown.alloc)⟩
      ·
        go_wp2_with (first
          | (with_reducible refine wp_store_new _ (mc 28 ch st) 50 (w.heap.size + 1) (.tmp 27) (.tmp 54) ?_ ?_ ?_ ?_ ?_ ?_ ?_ ?_ ?_; rfl; rfl; simp; go_simp; go_simp; (exact size50.trans (by simp [mc])); (simp [mc]); (simp [mc, Value.oneCell']); simp only [mc])
          | (with_reducible refine wp_load_whole (mc 28 ch st) 50 _ (w.heap.size + 1) (0, 0) (.tmp 27) ?_ ?_ ?_ ?_ Yba.underlying50 rfl (size50.trans (by simp [mc])) ?_; rfl; rfl; go_simp; (exact heap_mid _ _ _ _)))
        refine (keep_st1 w.heap.size k1 u1 ch st _ (by simp; omega) (by go_simp) (by go_simp) (by go_simp) (by go_simp) hc).mono ?_
        rintro e w' ⟨rfl, rfl⟩
        go_wp2_with fail
        go_quiet (fail)
        go_wp2
        go_ret
        exact ⟨rfl, by repeat (first | exact Grown.refl _ | apply grown_drewN' | apply Grown.alloc)⟩
    · have h28 : (t == 28) = false := by simpa using t28
      clear t28
      go_wp2_with (first
        | (with_reducible refine wp_store_new _ (mc t ch st) 50 (w.heap.size + 1) (.tmp 27) (.tmp 54) ?_ ?_ ?_ ?_ ?_ ?_ ?_ ?_ ?_; rfl; rfl; simp; go_simp; go_simp; (exact size50.trans (by simp [mc])); (simp [mc]); (simp [mc, Value.oneCell']); simp only [mc])
        | (with_reducible refine wp_load_whole (mc t ch st) 50 _ (w.heap.size + 1) (0, 0) (.tmp 27) ?_ ?_ ?_ ?_ Yba.underlying50 rfl (size50.trans (by simp [mc])) ?_; rfl; rfl; go_simp; (exact heap_mid _ _ _ _)))
      refine (keep_type1 w.heap.size k1 u1 t ch st _ (by simp; omega) (by go_simp) (by go_simp) (by go_simp) (by go_simp) h27 h28).mono ?_
      rintro e w' ⟨rfl, rfl⟩
      go_wp2_with fail
      go_quiet (fail)
      go_wp2
      go_ret
      exact ⟨rfl, by repeat (first | exact Grown.refl _ | apply grown_drewN' | apply Grown.alloc)⟩

end Go.Proofs.Ybulkabjg
