/-
  THE CLOSED FACTS FOR A WALK OVER fmt's STOPPED FRONT 'fmt.errorf' in this seat's dump, at the one format of 'checkOctetCount', typed after the guide's worked SentryFmt.lean. Each is proved by the kernel's own evaluation.
  T: 20: interface{} · 24: error · 9: string · 3: int · 63: the pointer to errors.errorString · 65: errors.errorString · 49: the pointer to fmt.wrapError · 95: fmt.wrapError.
-/
import Derived.Test.YbulkabeyFmtRows
import Derived.Stop.CallBack
import Derived.Stop.IfaceNil
import GoSem.ClaimData
namespace Go.Proofs.YbulkabeyFmt
open Go.Extern.Stop Go.Stop Go.Extern

/-- The listed variable's name, off the given row. -/
abbrev gName : String := Rows.lawS1363AOwnLengthSpec.vars.headD Rows.lawS1363AOwnLengthSpec.name
/-- The sentinel's type's name, off the given datum. -/
def esName : String := match (Rows.laid_example_com_ephemerid_ephemerid_ErrLength (H := Unit)) with
  | .iface n _ => n
  | _ => Rows.lawS1363AOwnLengthSpec.name

@[go_sem] theorem call17 (args : Array Value) (w : World) : (callFunc 17 args).run Ybaf.prog w = ((FmtStop.errorf #[9, 47] #[24] args).run Ybaf.prog w).andThen fun v w' => .ok (.value v) w' :=
  run_callFunc_extern Ybaf.func17 (by kernel_rfl) (by kernel_rfl) (by kernel_rfl) (by kernel_rfl) args w

@[go_sem] theorem guard (name : String) (w : World) : (FmtStop.guard name).run Ybaf.prog w = .ok () w := by kernel_rfl

/-- The format of 'checkOctetCount'. -/
abbrev fmtBytes : List UInt8 := [37, 119, 58, 32, 37, 100, 32, 111, 99, 116, 101, 116, 115, 44, 32, 97, 32, 37, 115, 32, 104, 97, 115, 32, 37, 100]
@[go_sem] theorem fmt0 : FmtStop.printed? ⟨#[37, 119, 58, 32, 37, 100, 32, 111, 99, 116, 101, 116, 115, 44, 32, 97, 32, 37, 115, 32, 104, 97, 115, 32, 37, 100]⟩ 4 = some [(0, 119, false), (1, 100, false), (2, 115, false), (3, 100, false)] := by kernel_rfl
@[go_sem] theorem fmt0r (w : World) : (FmtDoors.printed ⟨#[37, 119, 58, 32, 37, 100, 32, 111, 99, 116, 101, 116, 115, 44, 32, 97, 32, 37, 115, 32, 104, 97, 115, 32, 37, 100]⟩ 4).run Ybaf.prog w = .ok [(0, 119, false), (1, 100, false), (2, 115, false), (3, 100, false)] w := by kernel_rfl

-- int
def shape3 : List UInt8 := [5, 3, 0, 0, 0, 0, 0, 0, 0, 105, 110, 116]
@[go_sem] theorem op3_100w (name : String) (x : Int) (w : World) : (FmtStop.operand name true 100 false (.iface 3 (.int .i64 x))).run Ybaf.prog w = .ok (shape3, Go.Extern.Stop.digits 8 (x % 2 ^ 64).toNat) w := by kernel_rfl
-- string
def shape9 : List UInt8 := [12, 6, 0, 0, 0, 0, 0, 0, 0, 115, 116, 114, 105, 110, 103]
@[go_sem] theorem op9_115w (name : String) (s : ByteArray) (w : World) : (FmtStop.operand name true 115 false (.iface 9 (.string s))).run Ybaf.prog w = .ok (shape9, FmtStop.pack s.data.toList) w := by kernel_rfl

-- the two error types
@[go_sem] theorem ptr63 (w : World) : (FmtStop.ptrTo "errors.errorString").run Ybaf.prog w = .ok 63 w := by kernel_rfl
@[go_sem] theorem elem63 (w : World) : (elemOf 63).run Ybaf.prog w = .ok 65 w := by kernel_rfl
@[go_sem] theorem isError63 (w : World) : (FmtDoors.textMethod 63 "Error").run Ybaf.prog w = .ok true w := by kernel_rfl
def plain63 : List UInt8 := 14 :: FmtStop.pack esName.toUTF8.data.toList
/-- The sentinel as an operand under the verb w: it reads as its type's name and its text, out of memory. -/
theorem opPlain63_119w (name : String) (a : Addr) (s : ByteArray) (w : World) (hc : w.cell? a = some (.string s)) :
    (FmtStop.operand name true 119 false (.iface 63 (.pointer (some a)))).run Ybaf.prog w = .ok (plain63, s.data.toList) w := by
  have h1 : (typeStr 63).run Ybaf.prog w = .ok esName w := by kernel_rfl
  have d2 : Ybaf.t63.desc = .pointer 65 := rfl
  have d3 : Ybaf.t65.desc = .named "errors.errorString" 64 := rfl
  simp [FmtStop.operand, h1, d2, d3, run_load, hc, plain63]
@[go_sem] theorem ptr49 (w : World) : (FmtStop.ptrTo "fmt.wrapError").run Ybaf.prog w = .ok 49 w := by kernel_rfl
@[go_sem] theorem elem49 (w : World) : (elemOf 49).run Ybaf.prog w = .ok 95 w := by kernel_rfl
@[go_sem] theorem isError49 (w : World) : (FmtDoors.textMethod 49 "Error").run Ybaf.prog w = .ok true w := by kernel_rfl

end Go.Proofs.YbulkabeyFmt
