/-
  THE WALKS over 'LawS1363AVerdict' (function 3): where the slice has n bytes; and where it has not: 'checkOctetCount' and errors.Is by their contracts.
-/
import Derived.Test.YbulkabeyFmtOctets
import Derived.Test.YbulkabeyFmtIs
namespace Go.Proofs.YbulkabeyFmt
open Go.RowKit Go.Extern.Stop Go.Stop Go.Extern

theorem verdict_same (b : Option Addr) (len cap : Nat) (nm : ByteArray) (w : World) :
    Calls Ybaf.prog 3 #[.slice b len cap, .int .i64 len, .string nm] w fun e w' => e = .returned (.bool true) ∧ Below w.heap.size w w' := by
  go_enter Ybaf.func3, Ybaf.ntmps3
  go_wp2_with fail
  refine (co_nil b len cap nm _).mono ?_
  rintro e w' ⟨rfl, rfl⟩
  go_wp2_with fail
  go_ret
  exact ⟨rfl, Below.refl _ _⟩

set_option maxHeartbeats 1000000 in
theorem verdict_other (F : Interp) (b : Option Addr) (len cap : Nat) (n : Int) (nm : ByteArray) (a : Addr) (s : ByteArray) (w : World) (hF : F.answers w.tape) (hne : ((len : Int) == n) = false)
    (hg : w.cell? ⟨0, 0, none⟩ = some (.iface 63 (.pointer (some a)))) (h0 : 0 < w.heap.size)
    (hs : ∀ o, (w.alloc o).cell? a = some (.string s)) :
    Calls Ybaf.prog 3 #[.slice b len cap, .int .i64 n, .string nm] w fun e w' => e = .returned (.bool true) ∧ Below w.heap.size w w' := by
  go_enter Ybaf.func3, Ybaf.ntmps3
  go_wp2_with fail
  refine (co_err F b len cap n nm a s _ (by exact hF) hne (by exact hg) (by exact hs _)).mono ?_
  rintro e w' ⟨t, rfl, rfl⟩
  have hg' : (coWorld t len n nm a w).cell? ⟨0, 0, none⟩ = some (.iface 63 (.pointer (some a))) := by
    rw [(coWorld_below t len n nm a w).cell (p := ⟨0, 0, none⟩) h0]; exact hg
  go_wp2_with fail
  refine (is_wrap_same _ 0 a _ (by exact coWorld_inner t len n nm a w)).mono ?_
  rintro e w' ⟨rfl, rfl⟩
  go_wp2_with fail
  go_ret
  exact ⟨rfl, coWorld_below _ _ _ _ _ _⟩

end Go.Proofs.YbulkabeyFmt
