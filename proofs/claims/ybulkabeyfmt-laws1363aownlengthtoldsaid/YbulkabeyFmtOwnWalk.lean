/-
  THE WALK over 'LawS1363AOwnLength' (function 4): one region with two calls of 'checkOctetCount', each by its contract.
-/
import Derived.Test.YbulkabeyFmtOctets
import Derived.Deep.RegionWith
namespace Go.Proofs.YbulkabeyFmt
open Go.RowKit Go.Extern.Stop Go.Stop Go.Extern

set_option maxHeartbeats 1000000 in
theorem own_any (F : Interp) (b : Option Addr) (len cap : Nat) (nm : ByteArray) (a : Addr) (s : ByteArray) (w : World) (hF : F.answers w.tape) (hl : len < 140737488355328)
    (hg : w.cell? ⟨0, 0, none⟩ = some (.iface 63 (.pointer (some a))))
    (hs : ∀ o, (w.alloc o).cell? a = some (.string s)) :
    Calls Ybaf.prog 4 #[.slice b len cap, .string nm] w fun e w' => e = .returned (.bool true) ∧ Below w.heap.size w w' := by
  go_enter Ybaf.func4, Ybaf.ntmps4
  go_wp2_with fail
  refine (co_nil b len cap nm _).mono ?_
  rintro e w' ⟨rfl, rfl⟩
  go_wp2_with fail
  refine (co_err F b len cap ((len : Int) + 1) nm a s _ (by exact hF) (by rw [beq_eq_false_iff_ne]; omega) (by exact hg) (by exact hs _)).mono ?_
  rintro e w' ⟨t, rfl, rfl⟩
  go_wp2_with fail
  go_ret
  exact ⟨rfl, coWorld_below _ _ _ _ _ _⟩

end Go.Proofs.YbulkabeyFmt
