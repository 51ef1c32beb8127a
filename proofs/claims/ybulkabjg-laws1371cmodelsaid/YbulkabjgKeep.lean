/-
  THE WALKS over '(*call).keep' (function 8): by how it ends, at either end of the call.
-/
import Derived.Test.YbulkabjgRows
import Derived.WalkKit
namespace Go.Proofs.Ybulkabjg
open Go.RowKit

/-- The message's cells: the law sets its type, its change and its status. -/
abbrev mc (t : Int) (ch st : ByteArray) : Array Value := #[.int .u8 t, .string ⟨#[]⟩, .string ⟨#[]⟩, .string ⟨#[]⟩, .string ⟨#[]⟩, .string ⟨#[]⟩, .string ⟨#[]⟩, .string ⟨#[]⟩, .int .u8 0, .int .u8 0, .int .u8 0, .bool false, .bool false, .string ⟨#[]⟩, .int .u8 0, .string ch, .string ⟨#[]⟩, .string st, .string ⟨#[]⟩, .string ⟨#[]⟩, .string ⟨#[]⟩, .string ⟨#[]⟩, .string ⟨#[]⟩, .string ⟨#[]⟩, .string ⟨#[]⟩, .string ⟨#[]⟩]

set_option linter.unusedVariables false

set_option maxRecDepth 100000 in
theorem keep_ack0 (b : Nat) (u : Bool) (ch st : ByteArray) (w : World) (hb : b < w.heap.size) (hk : w.cell? ⟨b, 2, none⟩ = some (.bool true)) (hu : w.cell? ⟨b, 3, none⟩ = some (.bool u)) (fk : w.frozen? ⟨b, 2, none⟩ = false) (fu : w.frozen? ⟨b, 3, none⟩ = false) (hc : ch.toList = [114, 101, 108, 101, 97, 115, 101]) :
    Calls Yba.prog 8 #[.pointer (some ⟨b, 0, none⟩), .int .i64 0, .agg (mc 27 ch st)] w fun e w' => e = .returned (.bool true) ∧ w' = (w.setCell ⟨b, 2, none⟩ (.bool false)).alloc (.cells (mc 27 ch st) 50) := by
  go_enter Yba.func8, Yba.ntmps8
  go_wp2
  go_ret
  exact ⟨rfl, rfl⟩

set_option maxRecDepth 100000 in
theorem keep_upd0 (b : Nat) (k : Bool) (ch st : ByteArray) (w : World) (hb : b < w.heap.size) (hk : w.cell? ⟨b, 2, none⟩ = some (.bool k)) (hu : w.cell? ⟨b, 3, none⟩ = some (.bool true)) (fk : w.frozen? ⟨b, 2, none⟩ = false) (fu : w.frozen? ⟨b, 3, none⟩ = false) (hc : st.toList = [110, 111, 116, 45, 99, 111, 110, 110, 101, 99, 116, 101, 100]) :
    Calls Yba.prog 8 #[.pointer (some ⟨b, 0, none⟩), .int .i64 0, .agg (mc 28 ch st)] w fun e w' => e = .returned (.bool true) ∧ w' = (w.setCell ⟨b, 3, none⟩ (.bool false)).alloc (.cells (mc 28 ch st) 50) := by
  go_enter Yba.func8, Yba.ntmps8
  go_wp2
  go_ret
  exact ⟨rfl, rfl⟩

set_option maxRecDepth 100000 in
theorem keep_type0 (b : Nat) (k u : Bool) (t : Int) (ch st : ByteArray) (w : World) (hb : b < w.heap.size) (hk : w.cell? ⟨b, 2, none⟩ = some (.bool k)) (hu : w.cell? ⟨b, 3, none⟩ = some (.bool u)) (fk : w.frozen? ⟨b, 2, none⟩ = false) (fu : w.frozen? ⟨b, 3, none⟩ = false) (h27 : (t == 27) = false) (h28 : (t == 28) = false) :
    Calls Yba.prog 8 #[.pointer (some ⟨b, 0, none⟩), .int .i64 0, .agg (mc t ch st)] w fun e w' => e = .returned (.bool false) ∧ w' = w.alloc (.cells (mc t ch st) 50) := by
  go_enter Yba.func8, Yba.ntmps8
  go_wp2
  go_ret
  exact ⟨rfl, rfl⟩

set_option maxRecDepth 100000 in
theorem keep_ch0 (b : Nat) (k u : Bool) (ch st : ByteArray) (w : World) (hb : b < w.heap.size) (hk : w.cell? ⟨b, 2, none⟩ = some (.bool k)) (hu : w.cell? ⟨b, 3, none⟩ = some (.bool u)) (fk : w.frozen? ⟨b, 2, none⟩ = false) (fu : w.frozen? ⟨b, 3, none⟩ = false) (hc : ¬ ch.toList = [114, 101, 108, 101, 97, 115, 101]) :
    Calls Yba.prog 8 #[.pointer (some ⟨b, 0, none⟩), .int .i64 0, .agg (mc 27 ch st)] w fun e w' => e = .returned (.bool false) ∧ w' = w.alloc (.cells (mc 27 ch st) 50) := by
  go_enter Yba.func8, Yba.ntmps8
  go_wp2
  go_ret
  exact ⟨rfl, rfl⟩

set_option maxRecDepth 100000 in
theorem keep_noack0 (b : Nat) (u : Bool) (ch st : ByteArray) (w : World) (hb : b < w.heap.size) (hk : w.cell? ⟨b, 2, none⟩ = some (.bool false)) (hu : w.cell? ⟨b, 3, none⟩ = some (.bool u)) (fk : w.frozen? ⟨b, 2, none⟩ = false) (fu : w.frozen? ⟨b, 3, none⟩ = false) (hc : ch.toList = [114, 101, 108, 101, 97, 115, 101]) :
    Calls Yba.prog 8 #[.pointer (some ⟨b, 0, none⟩), .int .i64 0, .agg (mc 27 ch st)] w fun e w' => e = .returned (.bool false) ∧ w' = w.alloc (.cells (mc 27 ch st) 50) := by
  go_enter Yba.func8, Yba.ntmps8
  go_wp2
  go_ret
  exact ⟨rfl, rfl⟩

set_option maxRecDepth 100000 in
theorem keep_st0 (b : Nat) (k u : Bool) (ch st : ByteArray) (w : World) (hb : b < w.heap.size) (hk : w.cell? ⟨b, 2, none⟩ = some (.bool k)) (hu : w.cell? ⟨b, 3, none⟩ = some (.bool u)) (fk : w.frozen? ⟨b, 2, none⟩ = false) (fu : w.frozen? ⟨b, 3, none⟩ = false) (hc : ¬ st.toList = [110, 111, 116, 45, 99, 111, 110, 110, 101, 99, 116, 101, 100]) :
    Calls Yba.prog 8 #[.pointer (some ⟨b, 0, none⟩), .int .i64 0, .agg (mc 28 ch st)] w fun e w' => e = .returned (.bool false) ∧ w' = w.alloc (.cells (mc 28 ch st) 50) := by
  go_enter Yba.func8, Yba.ntmps8
  go_wp2
  go_ret
  exact ⟨rfl, rfl⟩

set_option maxRecDepth 100000 in
theorem keep_noupd0 (b : Nat) (k : Bool) (ch st : ByteArray) (w : World) (hb : b < w.heap.size) (hk : w.cell? ⟨b, 2, none⟩ = some (.bool k)) (hu : w.cell? ⟨b, 3, none⟩ = some (.bool false)) (fk : w.frozen? ⟨b, 2, none⟩ = false) (fu : w.frozen? ⟨b, 3, none⟩ = false) (hc : st.toList = [110, 111, 116, 45, 99, 111, 110, 110, 101, 99, 116, 101, 100]) :
    Calls Yba.prog 8 #[.pointer (some ⟨b, 0, none⟩), .int .i64 0, .agg (mc 28 ch st)] w fun e w' => e = .returned (.bool false) ∧ w' = w.alloc (.cells (mc 28 ch st) 50) := by
  go_enter Yba.func8, Yba.ntmps8
  go_wp2
  go_ret
  exact ⟨rfl, rfl⟩

set_option maxRecDepth 100000 in
theorem keep_ack1 (b : Nat) (u : Bool) (ch st : ByteArray) (w : World) (hb : b < w.heap.size) (hk : w.cell? ⟨b, 4, none⟩ = some (.bool true)) (hu : w.cell? ⟨b, 5, none⟩ = some (.bool u)) (fk : w.frozen? ⟨b, 4, none⟩ = false) (fu : w.frozen? ⟨b, 5, none⟩ = false) (hc : ch.toList = [114, 101, 108, 101, 97, 115, 101]) :
    Calls Yba.prog 8 #[.pointer (some ⟨b, 0, none⟩), .int .i64 1, .agg (mc 27 ch st)] w fun e w' => e = .returned (.bool true) ∧ w' = (w.setCell ⟨b, 4, none⟩ (.bool false)).alloc (.cells (mc 27 ch st) 50) := by
  go_enter Yba.func8, Yba.ntmps8
  go_wp2
  go_ret
  exact ⟨rfl, rfl⟩

set_option maxRecDepth 100000 in
theorem keep_upd1 (b : Nat) (k : Bool) (ch st : ByteArray) (w : World) (hb : b < w.heap.size) (hk : w.cell? ⟨b, 4, none⟩ = some (.bool k)) (hu : w.cell? ⟨b, 5, none⟩ = some (.bool true)) (fk : w.frozen? ⟨b, 4, none⟩ = false) (fu : w.frozen? ⟨b, 5, none⟩ = false) (hc : st.toList = [110, 111, 116, 45, 99, 111, 110, 110, 101, 99, 116, 101, 100]) :
    Calls Yba.prog 8 #[.pointer (some ⟨b, 0, none⟩), .int .i64 1, .agg (mc 28 ch st)] w fun e w' => e = .returned (.bool true) ∧ w' = (w.setCell ⟨b, 5, none⟩ (.bool false)).alloc (.cells (mc 28 ch st) 50) := by
  go_enter Yba.func8, Yba.ntmps8
  go_wp2
  go_ret
  exact ⟨rfl, rfl⟩

set_option maxRecDepth 100000 in
theorem keep_type1 (b : Nat) (k u : Bool) (t : Int) (ch st : ByteArray) (w : World) (hb : b < w.heap.size) (hk : w.cell? ⟨b, 4, none⟩ = some (.bool k)) (hu : w.cell? ⟨b, 5, none⟩ = some (.bool u)) (fk : w.frozen? ⟨b, 4, none⟩ = false) (fu : w.frozen? ⟨b, 5, none⟩ = false) (h27 : (t == 27) = false) (h28 : (t == 28) = false) :
    Calls Yba.prog 8 #[.pointer (some ⟨b, 0, none⟩), .int .i64 1, .agg (mc t ch st)] w fun e w' => e = .returned (.bool false) ∧ w' = w.alloc (.cells (mc t ch st) 50) := by
  go_enter Yba.func8, Yba.ntmps8
  go_wp2
  go_ret
  exact ⟨rfl, rfl⟩

set_option maxRecDepth 100000 in
theorem keep_ch1 (b : Nat) (k u : Bool) (ch st : ByteArray) (w : World) (hb : b < w.heap.size) (hk : w.cell? ⟨b, 4, none⟩ = some (.bool k)) (hu : w.cell? ⟨b, 5, none⟩ = some (.bool u)) (fk : w.frozen? ⟨b, 4, none⟩ = false) (fu : w.frozen? ⟨b, 5, none⟩ = false) (hc : ¬ ch.toList = [114, 101, 108, 101, 97, 115, 101]) :
    Calls Yba.prog 8 #[.pointer (some ⟨b, 0, none⟩), .int .i64 1, .agg (mc 27 ch st)] w fun e w' => e = .returned (.bool false) ∧ w' = w.alloc (.cells (mc 27 ch st) 50) := by
  go_enter Yba.func8, Yba.ntmps8
  go_wp2
  go_ret
  exact ⟨rfl, rfl⟩

set_option maxRecDepth 100000 in
theorem keep_noack1 (b : Nat) (u : Bool) (ch st : ByteArray) (w : World) (hb : b < w.heap.size) (hk : w.cell? ⟨b, 4, none⟩ = some (.bool false)) (hu : w.cell? ⟨b, 5, none⟩ = some (.bool u)) (fk : w.frozen? ⟨b, 4, none⟩ = false) (fu : w.frozen? ⟨b, 5, none⟩ = false) (hc : ch.toList = [114, 101, 108, 101, 97, 115, 101]) :
    Calls Yba.prog 8 #[.pointer (some ⟨b, 0, none⟩), .int .i64 1, .agg (mc 27 ch st)] w fun e w' => e = .returned (.bool false) ∧ w' = w.alloc (.cells (mc 27 ch st) 50) := by
  go_enter Yba.func8, Yba.ntmps8
  go_wp2
  go_ret
  exact ⟨rfl, rfl⟩

set_option maxRecDepth 100000 in
theorem keep_st1 (b : Nat) (k u : Bool) (ch st : ByteArray) (w : World) (hb : b < w.heap.size) (hk : w.cell? ⟨b, 4, none⟩ = some (.bool k)) (hu : w.cell? ⟨b, 5, none⟩ = some (.bool u)) (fk : w.frozen? ⟨b, 4, none⟩ = false) (fu : w.frozen? ⟨b, 5, none⟩ = false) (hc : ¬ st.toList = [110, 111, 116, 45, 99, 111, 110, 110, 101, 99, 116, 101, 100]) :
    Calls Yba.prog 8 #[.pointer (some ⟨b, 0, none⟩), .int .i64 1, .agg (mc 28 ch st)] w fun e w' => e = .returned (.bool false) ∧ w' = w.alloc (.cells (mc 28 ch st) 50) := by
  go_enter Yba.func8, Yba.ntmps8
  go_wp2
  go_ret
  exact ⟨rfl, rfl⟩

set_option maxRecDepth 100000 in
theorem keep_noupd1 (b : Nat) (k : Bool) (ch st : ByteArray) (w : World) (hb : b < w.heap.size) (hk : w.cell? ⟨b, 4, none⟩ = some (.bool k)) (hu : w.cell? ⟨b, 5, none⟩ = some (.bool false)) (fk : w.frozen? ⟨b, 4, none⟩ = false) (fu : w.frozen? ⟨b, 5, none⟩ = false) (hc : st.toList = [110, 111, 116, 45, 99, 111, 110, 110, 101, 99, 116, 101, 100]) :
    Calls Yba.prog 8 #[.pointer (some ⟨b, 0, none⟩), .int .i64 1, .agg (mc 28 ch st)] w fun e w' => e = .returned (.bool false) ∧ w' = w.alloc (.cells (mc 28 ch st) 50) := by
  go_enter Yba.func8, Yba.ntmps8
  go_wp2
  go_ret
  exact ⟨rfl, rfl⟩

end Go.Proofs.Ybulkabjg
