/-
  THE WALK over 'LawS1375BPrefixStable' (function 4): the made slice's row is filled by the loop; 'unprintableByte' by its contract, twice.
-/
import Derived.Test.YbulkablkScan
import Derived.Deep.OwnRows
import Derived.Laws.BytesArg
namespace Go.Proofs.Ybulkablk
open Go.RowKit

theorem info5 : (Yba.prog.info? 5).map (fun i => (i.zero, i.size, i.bytes)) = some (some (.int .u8 0), 1, 1) := by kernel_rfl

/-- The byte that the loop lays for the number z. -/
def lay (z : Int) : Int := 33 + z % 94

/-- The row of the made slice behind k rounds. -/
def rowAt (zs : Nat → Int) (k : Nat) : Nat → Value := fun j => .int .u8 (if j < k then lay (zs j) else 0)

theorem row_start (zs : Nat → Int) (len : Nat) (w : World) : (w.alloc (.cells (madeCells #[.int .u8 0] len) 5)).rowIs w.heap.size 5 len (rowAt zs 0) :=
  (World.rowIs_made w (.int .u8 0) len 5).congr fun i _ => by simp [rowAt]

theorem row_step {zs : Nat → Int} {len b k : Nat} {w : World} (h : w.rowIs b 5 len (rowAt zs k)) : (w.setCell ⟨b, k, none⟩ (.int .u8 (33 + zs k % 94))).rowIs b 5 len (rowAt zs (k + 1)) :=
  (h.set k _).congr fun i _ => by
    unfold rowAt lay
    by_cases h1 : i = k
    · subst h1; simp
    · by_cases h2 : i < k
      · simp [h1, h2, Nat.lt_succ_of_lt h2]
      · have h3 : ¬ i < k + 1 := by omega
        simp [h1, h2, h3]

/-- The numbers that the loop has laid. -/
def nums (zs : Nat → Int) (len : Nat) : List Int := (List.range len).map fun j => lay (zs j)

theorem nums_getD (zs : Nat → Int) (len i : Nat) (h : i < len) : (nums zs len).getD i 0 = lay (zs i) := by
  simp [nums, List.getD, h]

theorem nums_printable (zs : Nat → Int) (len : Nat) : ∀ c ∈ (strOfNums (nums zs len)).data.toList, pr c = true := by
  intro c hc
  rw [strOfNums_data] at hc
  simp only [nums, List.map_map, List.mem_map, List.mem_range, Function.comp] at hc
  obtain ⟨j, _, rfl⟩ := hc
  have h : 33 ≤ lay (zs j) ∧ lay (zs j) ≤ 126 := by unfold lay; omega
  have e : (UInt8.ofNat (lay (zs j)).toNat).toNat = (lay (zs j)).toNat := by
    rw [UInt8.toNat_ofNat']; omega
  simp only [pr, e, decide_eq_true_eq]
  omega

theorem found_le {l : List UInt8} {r : Int} (h : Found l r) : r ≤ (l.length : Int) := by
  rcases h with ⟨rfl, _⟩ | ⟨a, c, b, rfl, rfl, _, _⟩
  · omega
  · simp only [List.length_append]; omega

theorem data_append (a b : ByteArray) : (a ++ b).data.toList = a.data.toList ++ b.data.toList := by
  rw [ByteArray.data_append, Array.toList_append]

theorem ret_true {b : Bool} (h : b = true) : Ending.returned (.bool b) = .returned (.bool true) := by rw [h]

set_option maxHeartbeats 1000000 in
theorem shift_small (a0 : Option Addr) (len cap : Nat) (zs : Nat → Int) (s : ByteArray) (w : World) (hl : len ≤ 1024) (hs : s.size < 140737488355328)
    (hc : ∀ i, i < len → ∃ x, a0 = some x ∧ w.cell? (x.add i) = some (.int .u8 (zs i)) ∧ x.block < w.heap.size ∧ 0 ≤ zs i ∧ zs i ≤ 255) :
    Calls Yba.prog 4 #[.slice a0 len cap, .string s] w fun e w' => e = .returned (.bool true) ∧ Below w.heap.size w w' := by
  have hmk := run_make_row' (P := Yba.prog) 25 5 (.int .u8 0) 1 Yba.underlying25 info5 rfl .i64 .i64 len (by omega) (by omega)
  go_enter Yba.func4, Yba.ntmps4
  go_wp2_with fail
  clear hmk
  go_loopw [6] (fun i wr => ∃ k : Nat, k ≤ len ∧ i = .int .i64 k ∧ wr.rowIs w.heap.size 5 len (rowAt zs k) ∧ Below w.heap.size w wr) (fun i _ => len - (intOf i).toNat)
  case atStart => exact ⟨0, Nat.zero_le _, rfl, row_start zs len w, (Below.refl _ w).alloc (Nat.le_refl _) _⟩
  case round =>
    obtain ⟨k, hk, rfl, hrow, hbel⟩ := hrel
    by_cases hlt : k < len
    · obtain ⟨x, rfl, hcx, hxb, hz0, hz1⟩ := hc k hlt
      have h1 : wr.cell? (x.add k) = some (.int .u8 (zs k)) := by
        rw [hbel.cell (p := x.add k) (by unfold Addr.add; split <;> exact hxb)]; exact hcx
      have h2 : wr.cell? ⟨w.heap.size, k, none⟩ = some (.int .u8 0) := by
        rw [hrow.cell hlt]; simp [rowAt]
      have h3 : wr.frozen? ⟨w.heap.size, k, none⟩ = false := hrow.frozen k
      have HR : Hid (wr.rowIs w.heap.size 5 len (rowAt zs k)) := hrow
      have HB : Hid (Below w.heap.size w wr) := hbel
      clear hrow hbel hcx hc
      go_wp2_with fail
      refine ⟨⟨k + 1, by omega, by go_num, row_step HR.out, HB.out.setCell (Nat.le_refl _) _⟩, ?_⟩
      simp [intOf]
      omega
    · obtain rfl : k = len := by omega
      have hcv := run_convert_bytes_arg (P := Yba.prog) wr 25 5 Yba.underlying25 Yba.underlying5 w.heap.size 0 k k (nums zs k) (by simp [nums]) (fun i hi => by
        rw [Nat.zero_add, hrow.cell hi, nums_getD zs k i hi]; simp [rowAt, hi]) 9 Yba.underlying9
      have hns : (strOfNums (nums zs k)).size = k := by rw [strOfNums_size]; simp [nums]
      have hsum : (strOfNums (nums zs k)).size + s.size ≤ 9223372036854775807 := by omega
      have HB : Hid (Below w.heap.size w wr) := hbel
      have HS : Hid ((strOfNums (nums zs k)).size = k) := hns
      clear hrow hbel hc hns
      go_wp2_with fail
      refine (unp_any s _ (by unfold maxLen; omega)).mono ?_
      rintro e w' ⟨r, rfl, rfl, hr⟩
      go_wp2_with fail
      refine (unp_any (strOfNums (nums zs k) ++ s) _ (by rw [ByteArray.size_append, HS.out]; unfold maxLen; omega)).mono ?_
      rintro e w' ⟨q, rfl, rfl, hq⟩
      have hlr := found_le hr
      have hsl : s.data.toList.length = s.size := by rw [Array.length_toList]; rfl
      have hpl : (strOfNums (nums zs k)).data.toList.length = k := by rw [Array.length_toList]; exact HS.out
      rw [data_append] at hq
      have hfa := found_append (nums_printable zs k) hr hq
      rw [hpl] at hfa
      have hr2 : r ≤ s.size := by omega
      clear hr hq hsl hpl hcv hlr
      rcases hfa with ⟨rfl, rfl⟩ | ⟨h0, rfl⟩
      · go_wp2_with fail
        go_ret
        exact ⟨rfl, HB.out⟩
      · have hm : ((r : Int) == -1) = false := by rw [beq_eq_false_iff_ne]; omega
        go_wp2_with fail
        go_ret
        exact ⟨ret_true (by simp), HB.out⟩

end Go.Proofs.Ybulkablk
