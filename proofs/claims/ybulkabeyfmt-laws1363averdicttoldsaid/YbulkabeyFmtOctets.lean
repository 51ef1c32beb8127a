/-
  THE WALKS over 'checkOctetCount' (function 6 of this seat's dump): nil where the slice has n bytes; else a new *fmt.wrapError round the sentinel, behind one new block for the variadic slice and one draw.
-/
import Derived.Test.YbulkabeyFmtFacts
import Derived.WalkKit
import Derived.WalkSpells
namespace Go.Proofs.YbulkabeyFmt
open Go.RowKit Go.Extern.Stop Go.Stop Go.Extern

theorem co_nil (b : Option Addr) (len cap : Nat) (nm : ByteArray) (w : World) :
    Calls Ybaf.prog 6 #[.slice b len cap, .int .i64 len, .string nm] w fun e w' => e = .returned .nilIface ∧ w' = w := by
  go_enter Ybaf.func6, Ybaf.ntmps6
  go_wp2
  go_ret
  exact ⟨rfl, rfl⟩

/-- The world behind the failing way: the variadic slice's block; the new error's; one draw. 't': the text. -/
def coWorld (t : ByteArray) (len : Nat) (n : Int) (nm : ByteArray) (a : Addr) (w : World) : World :=
  ((w.alloc (.cells #[.iface 63 (.pointer (some a)), .iface 3 (.int .i64 len), .iface 9 (.string nm), .iface 3 (.int .i64 n)] 20)).alloc (.cells #[.string t, .iface 63 (.pointer (some a))] 95)).drew

set_option maxHeartbeats 400000 in
theorem co_err (F : Interp) (b : Option Addr) (len cap : Nat) (n : Int) (nm : ByteArray) (a : Addr) (s : ByteArray) (w : World) (hF : F.answers w.tape) (hne : ((len : Int) == n) = false)
    (hg : w.cell? ⟨0, 0, none⟩ = some (.iface 63 (.pointer (some a))))
    (hs : (w.alloc (.cells #[.iface 63 (.pointer (some a)), .iface 3 (.int .i64 len), .iface 9 (.string nm), .iface 3 (.int .i64 n)] 20)).cell? a = some (.string s)) :
    Calls Ybaf.prog 6 #[.slice b len cap, .int .i64 n, .string nm] w fun e w' => ∃ t, e = .returned (.iface 49 (.pointer (some ⟨w.heap.size + 1, 0, none⟩))) ∧ w' = coWorld t len n nm a w := by
  have hF' := answers_open hF
  have hop := opPlain63_119w "fmt.errorf" a s _ hs
  have hne' : ((len : Int) != n) = true := by simp [bne, hne]
  go_enter Ybaf.func6, Ybaf.ntmps6
  go_wp2
  go_ret
  exact ⟨_, rfl, rfl⟩

theorem coWorld_below (t : ByteArray) (len : Nat) (n : Int) (nm : ByteArray) (a : Addr) (w : World) : Below w.heap.size w (coWorld t len n nm a w) :=
  (((Below.refl _ w).alloc (Nat.le_refl _) _).alloc (by simp) _).drew
theorem coWorld_inner (t : ByteArray) (len : Nat) (n : Int) (nm : ByteArray) (a : Addr) (w : World) : (coWorld t len n nm a w).cell? ⟨w.heap.size + 1, 0 + 1, none⟩ = some (.iface 63 (.pointer (some a))) := by
  unfold coWorld
  go_simp
/-- A draw ahead of the call turns nothing that is read. -/
theorem coWorld_below_drew (t : ByteArray) (len : Nat) (n : Int) (nm : ByteArray) (a : Addr) (w : World) : Below w.heap.size w (coWorld t len n nm a w.drew) :=
  (((Below.refl _ w).drew.alloc (Nat.le_refl _) _).alloc (by simp) _).drew

end Go.Proofs.YbulkabeyFmt
