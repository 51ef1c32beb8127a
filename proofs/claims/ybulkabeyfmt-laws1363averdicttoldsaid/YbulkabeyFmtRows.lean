/-
  NARROWER THAN 'FOR EVERY INPUT', by the rows' own cells (each row's printed sentence says how): LawS1363AVerdict: ifaces, laid · LawS1363AOwnLength: ifaces, laid · LawS1363CInvalid: ifaces, laid.
  DERIVED. THE GIVEN ROWS OF THIS SEAT. 3 by the template 'for every input the law returns true; each argument reads behind the call as it read before'; 0 by the template 'total and deterministic' (their statements: YbulkabeyFmtTotals.lean).
  GIVEN WITH THE SEED: the statements are not yours to turn. If you find one false, say at which input.
  Laid BY PROGRAM, IN A SANDBOX (cutbox-rows.mjs): the forced cells as the released guide's own fill.sh prints them over the translation 898c6aed25b45298… (all of the seat's roots in one cut). By AI agents, Wed Nov 11 2026. No macro, syntax, notation, axiom, sorry.
-/
import Derived.Test.YbulkabeyFmtChecked
import GoSem.Claim
import GoSem.ClaimJoined
import GoSem.ClaimMapViews
import Derived.JoinedTies
import Derived.KernelRfl
namespace Go.Proofs.YbulkabeyFmt
/- THE CELL 'sum', in the pinned program and in every row, IS THE sha256 OF THE DUMP (.gsa) THAT YbulkabeyFmtProg.lean LOADS. Nothing in Lean hashes anything: it is a label: what it is worth is what the hold of that sum in a sandbox is worth. -/
noncomputable def Ybaf.pinned : Pinned := { name := "ybulkabeyfmt", sum := "898c6aed25b45298bf91123a24302b0720e6ef829c9f0cd76c3ced0a1ece42a5", checked := Ybaf.checked }
namespace Rows
def none {H : Type} : Left H := { results := [], args := [] }

/- WHAT THE LISTED PACKAGE-LEVEL VARIABLES READ AS WHEN THE CALL BEGINS. Each datum BY PROGRAM (the guide's laid-datum.mjs) off the statement by which the dump's own 'gosem.cut.vars' lays the variable. In a bare row this is a premise. The card (YbulkabeyFmtCards.lean) ties it to the program's text. -/
def laid_example_com_ephemerid_ephemerid_ErrLength {H : Type} : DataW H := .iface "*errors.errorString" (.ptr (.agg [.lit (.string [119, 114, 111, 110, 103, 32, 108, 101, 110, 103, 116, 104])]))
def laid_example_com_ephemerid_ephemerid_ErrRange {H : Type} : DataW H := .iface "*errors.errorString" (.ptr (.agg [.lit (.string [118, 97, 108, 117, 101, 32, 111, 117, 116, 32, 111, 102, 32, 114, 97, 110, 103, 101])]))

/-- 'ephemerid.LawS1363AVerdict': WHATEVER THE INPUT: true; the input reads as it did. -/
def lawS1363AVerdictSpec : ChangeSpec := { name := "lawS1363AVerdict", vars := ["example.com/ephemerid/ephemerid.ErrLength"], fn := fun _ => fun
  | [d1, d2, d3, g1] => { results := [.lit (.bool true)], args := [d1, d2, d3], vars := [g1] }
  | _ => none }
def lawS1363AVerdictRow : OpenClaim := { program := "ybulkabeyfmt", sum := "898c6aed25b45298bf91123a24302b0720e6ef829c9f0cd76c3ced0a1ece42a5", func := "example.com/ephemerid/ephemerid.LawS1363AVerdict", spec := "lawS1363AVerdict", stops := ["fmt.errorf"], inPlace := ["fmt.errorf", "internal/reflectlite.TypeOf"], unfollowed := true, recurses := true, named := ["example.com/ephemerid/ephemerid.ErrLength"], ifaces := true, apart := false, laid := [("example.com/ephemerid/ephemerid.ErrLength", laid_example_com_ephemerid_ephemerid_ErrLength)] }
/-- NO THEOREM (fmt's text is open here; it may be false): for the released tool's asking of the row's closed facts alone. THE STATEMENT IS 'LawS1363AVerdictToldSaid' (YbulkabeyFmtCards.lean). -/
def LawS1363AVerdictFormAsk : Prop := lawS1363AVerdictRow.holds Ybaf.pinned (OpenSpec.ofChange lawS1363AVerdictSpec)

/-- ITS FALSE NEIGHBOUR: 'it returns false'. Refute it at one input. -/
def lawS1363AVerdictWrong : ChangeSpec := { name := "lawS1363AVerdict", vars := ["example.com/ephemerid/ephemerid.ErrLength"], fn := fun _ => fun
  | [d1, d2, d3, g1] => { results := [.lit (.bool false)], args := [d1, d2, d3], vars := [g1] }
  | _ => none }
def LawS1363AVerdictWrongFormAsk : Prop := lawS1363AVerdictRow.holds Ybaf.pinned (OpenSpec.ofChange lawS1363AVerdictWrong)

/-- 'ephemerid.LawS1363AOwnLength': WHATEVER THE INPUT: true; the input reads as it did. -/
def lawS1363AOwnLengthSpec : ChangeSpec := { name := "lawS1363AOwnLength", vars := ["example.com/ephemerid/ephemerid.ErrLength"], fn := fun _ => fun
  | [d1, d2, g1] => { results := [.lit (.bool true)], args := [d1, d2], vars := [g1] }
  | _ => none }
def lawS1363AOwnLengthRow : OpenClaim := { program := "ybulkabeyfmt", sum := "898c6aed25b45298bf91123a24302b0720e6ef829c9f0cd76c3ced0a1ece42a5", func := "example.com/ephemerid/ephemerid.LawS1363AOwnLength", spec := "lawS1363AOwnLength", stops := ["fmt.errorf"], inPlace := ["fmt.errorf"], named := ["example.com/ephemerid/ephemerid.ErrLength"], ifaces := true, apart := false, laid := [("example.com/ephemerid/ephemerid.ErrLength", laid_example_com_ephemerid_ephemerid_ErrLength)] }
/-- NO THEOREM (fmt's text is open here; it may be false): for the released tool's asking of the row's closed facts alone. THE STATEMENT IS 'LawS1363AOwnLengthToldSaid' (YbulkabeyFmtCards.lean). -/
def LawS1363AOwnLengthFormAsk : Prop := lawS1363AOwnLengthRow.holds Ybaf.pinned (OpenSpec.ofChange lawS1363AOwnLengthSpec)

/-- ITS FALSE NEIGHBOUR: 'it returns false'. Refute it at one input. -/
def lawS1363AOwnLengthWrong : ChangeSpec := { name := "lawS1363AOwnLength", vars := ["example.com/ephemerid/ephemerid.ErrLength"], fn := fun _ => fun
  | [d1, d2, g1] => { results := [.lit (.bool false)], args := [d1, d2], vars := [g1] }
  | _ => none }
def LawS1363AOwnLengthWrongFormAsk : Prop := lawS1363AOwnLengthRow.holds Ybaf.pinned (OpenSpec.ofChange lawS1363AOwnLengthWrong)

/-- 'ephemerid.LawS1363CInvalid': WHATEVER THE INPUT: true; the input reads as it did. -/
def lawS1363CInvalidSpec : ChangeSpec := { name := "lawS1363CInvalid", vars := ["example.com/ephemerid/ephemerid.ErrRange", "example.com/ephemerid/ephemerid.hexPairs"], fn := fun _ => fun
  | [d1, d2, d3, d4, g1, g2] => { results := [.lit (.bool true)], args := [d1, d2, d3, d4], vars := [g1, g2] }
  | _ => none }
def lawS1363CInvalidRow : OpenClaim := { program := "ybulkabeyfmt", sum := "898c6aed25b45298bf91123a24302b0720e6ef829c9f0cd76c3ced0a1ece42a5", func := "example.com/ephemerid/ephemerid.LawS1363CInvalid", spec := "lawS1363CInvalid", stops := ["fmt.errorf"], inPlace := ["fmt.errorf", "internal/reflectlite.TypeOf"], unfollowed := true, recurses := true, named := ["example.com/ephemerid/ephemerid.ErrRange", "encoding/binary.BigEndian", "example.com/ephemerid/ephemerid.hexPairs"], ifaces := true, apart := false, laid := [("example.com/ephemerid/ephemerid.ErrRange", laid_example_com_ephemerid_ephemerid_ErrRange)] }
/-- NO THEOREM (fmt's text is open here; it may be false): for the released tool's asking of the row's closed facts alone. THE STATEMENT IS 'LawS1363CInvalidToldSaid' (YbulkabeyFmtCards.lean). -/
def LawS1363CInvalidFormAsk : Prop := lawS1363CInvalidRow.holds Ybaf.pinned (OpenSpec.ofChange lawS1363CInvalidSpec)

/-- ITS FALSE NEIGHBOUR: 'it returns false'. Refute it at one input. -/
def lawS1363CInvalidWrong : ChangeSpec := { name := "lawS1363CInvalid", vars := ["example.com/ephemerid/ephemerid.ErrRange", "example.com/ephemerid/ephemerid.hexPairs"], fn := fun _ => fun
  | [d1, d2, d3, d4, g1, g2] => { results := [.lit (.bool false)], args := [d1, d2, d3, d4], vars := [g1, g2] }
  | _ => none }
def LawS1363CInvalidWrongFormAsk : Prop := lawS1363CInvalidRow.holds Ybaf.pinned (OpenSpec.ofChange lawS1363CInvalidWrong)

end Rows
end Go.Proofs.YbulkabeyFmt
