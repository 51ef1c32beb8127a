/-
  errors.Is BY ITS CONTRACT over this seat's dump, at the one shape that 'LawS1363AVerdict' hands it: a *fmt.wrapError that wraps the very sentinel. After the guide's worked SentryIs.lean. Go's own text of errors.Is and errors.is is walked.
  7: errors.Is · 12: reflectlite.TypeOf · 44: (rtype).Comparable · 40: (*fmt.wrapError).Unwrap · 24: error · 63, 65: *errors.errorString, errors.errorString · 49: *fmt.wrapError · 51: reflectlite's rtype · 53, 56, 57: the three asserted interfaces.
-/
import Derived.Test.YbulkabeyFmtRows
import Derived.WalkKit
import Derived.LaidEql
import Derived.Stop.Asserts
import Derived.RowKitTokens
namespace Go.Proofs.YbulkabeyFmt
open Go.RowKit Go.Extern.Stop Go.Stop Go.Extern

theorem isTypeOf (v : Value) (w : World) : (callFunc 12 #[.iface 63 v]).run Ybaf.prog w = .ok (.value (.iface 51 (.agg #[.pointer (some ⟨4, 63, none⟩)]))) w := by kernel_rfl
theorem isComparable (w : World) : (callFunc 44 #[.agg #[.pointer (some ⟨4, 63, none⟩)]]).run Ybaf.prog w = .ok (.value (.bool true)) w := by kernel_rfl
theorem isMethodComparable (v : Value) (w : World) : (Go.method 209 51 v "Comparable").run Ybaf.prog w = .ok (44, v) w := by kernel_rfl
theorem isComp : (Ybaf.prog.info? 63).map (·.comparable) = some true := by kernel_rfl
theorem isSize : (Ybaf.prog.info? 65).map (·.size) = some 1 := by kernel_rfl
theorem noIsW (v : Value) (xT : TypeId) (w : World) : (Instr.typeAssert (.iface 49 v) xT 53 true).run Ybaf.prog w = .ok (.tuple #[.nilIface, .bool false]) w := run_typeAssert_lacksB Ybaf.underlying53 (by kernel_rfl) (by kernel_rfl) v xT w
theorem hasUnwrapW (v : Value) (xT : TypeId) (w : World) : (Instr.typeAssert (.iface 49 v) xT 56 true).run Ybaf.prog w = .ok (.tuple #[.iface 49 v, .bool true]) w := run_typeAssert_hasB Ybaf.underlying56 (by kernel_rfl) v xT w
theorem methodUnwrap (v : Value) (w : World) : (Go.method 209 49 v "Unwrap").run Ybaf.prog w = .ok (40, v) w := by kernel_rfl

set_option maxHeartbeats 1000000 in
/-- errors.Is(e, x), e a *fmt.wrapError that wraps x itself: one Unwrap, then equal. -/
theorem is_wrap_same (pb po : Nat) (b : Addr) (w : World) (h1 : w.cell? ⟨pb, po + 1, none⟩ = some (.iface 63 (.pointer (some b)))) :
    Calls Ybaf.prog 7 #[.iface 49 (.pointer (some ⟨pb, po, none⟩)), .iface 63 (.pointer (some b))] w fun e w' => e = .returned (.bool true) ∧ w' = w := by
  obtain ⟨i, hi, hcmp⟩ := Option.map_eq_some_iff.1 isComp
  obtain ⟨j, hj, hjs⟩ := Option.map_eq_some_iff.1 isSize
  have tT := isTypeOf
  have cT := isComparable
  have mR := isMethodComparable
  have nW := noIsW
  have uW := hasUnwrapW
  have mU := methodUnwrap
  have heq := run_eql_iface_ptr_same (P := Ybaf.prog) w b Ybaf.underlying24 Ybaf.underlying63 hi hcmp hj
  have hty := run_eql_iface_types (P := Ybaf.prog) 49 63 (.pointer (some ⟨pb, po, none⟩)) (.pointer (some b)) Ybaf.underlying24 (by decide) w
  go_enter Ybaf.func7, Ybaf.ntmps7
  go_wp2
  refine wp_loop_rounds 2 ?_
  rw [rounds_succ]
  go_wp2
  rw [rounds_succ]
  go_wp2
  go_ret
  exact ⟨rfl, rfl⟩

end Go.Proofs.YbulkabeyFmt
