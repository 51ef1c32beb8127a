/-
  DERIVED. GIVEN WITH THE SEED: THE CARDS: each row of YbulkabeyFmtRows.lean that lists a variable, with what it lists TIED to the program's text (the seventh form; the later family's looks); each row that meets fmt, with fmt's text TOLD by the authors' own Lean function (tested against real Go, not proved from fmt's source: count such statements apart). THE CARD IS WHAT COUNTS. Prove the row's statement (the work); the ties are given (YbulkabeyFmtTie.lean); close each card by the builder's one call (the guide's Derived/Test/ToyasCard.lean, 'card_holds'). Laid BY PROGRAM, IN A SANDBOX (cutbox-door.mjs). By AI agents, Wed Nov 11 2026. No macro, syntax, notation, axiom, sorry.
-/
import Derived.Test.YbulkabeyFmtRows
import GoSem.ClaimSeven
namespace Go.Proofs.YbulkabeyFmt
namespace Rows

/-- THE TOLD AND TIED CARD OF 'ephemerid.LawS1363AVerdict'. -/
def lawS1363AVerdictCard : Claim7 := { stood := { row := lawS1363AVerdictRow, standIns := [], harness := (true, "6ab367bd72a100d42fc13bd294f4642391da7a4bf15c3da656db23982cfc4495"), looks := true }, told := true, laidByText := true, laidKinds := [.called], laidTests := true, laidLooks := .later, goes := false }
def LawS1363AVerdictToldSaid : Prop := Claim7.holds Ybaf.pinned (.plain (OpenSpec.ofChange lawS1363AVerdictSpec)) lawS1363AVerdictCard
/-- ITS FALSE NEIGHBOUR. Refute it at one input. -/
def LawS1363AVerdictToldWrongFalsely : Prop := Claim7.holds Ybaf.pinned (.plain (OpenSpec.ofChange lawS1363AVerdictWrong)) lawS1363AVerdictCard

/-- THE TOLD AND TIED CARD OF 'ephemerid.LawS1363AOwnLength'. -/
def lawS1363AOwnLengthCard : Claim7 := { stood := { row := lawS1363AOwnLengthRow, standIns := [], harness := (true, "6ab367bd72a100d42fc13bd294f4642391da7a4bf15c3da656db23982cfc4495"), looks := true }, told := true, laidByText := true, laidKinds := [.called], laidTests := true, laidLooks := .later, goes := false }
def LawS1363AOwnLengthToldSaid : Prop := Claim7.holds Ybaf.pinned (.plain (OpenSpec.ofChange lawS1363AOwnLengthSpec)) lawS1363AOwnLengthCard
/-- ITS FALSE NEIGHBOUR. Refute it at one input. -/
def LawS1363AOwnLengthToldWrongFalsely : Prop := Claim7.holds Ybaf.pinned (.plain (OpenSpec.ofChange lawS1363AOwnLengthWrong)) lawS1363AOwnLengthCard

/-- THE TOLD AND TIED CARD OF 'ephemerid.LawS1363CInvalid'. -/
def lawS1363CInvalidCard : Claim7 := { stood := { row := lawS1363CInvalidRow, standIns := [], harness := (true, "6ab367bd72a100d42fc13bd294f4642391da7a4bf15c3da656db23982cfc4495"), looks := true }, told := true, laidByText := true, laidKinds := [.called], laidTests := true, laidLooks := .later, goes := false }
def LawS1363CInvalidToldSaid : Prop := Claim7.holds Ybaf.pinned (.plain (OpenSpec.ofChange lawS1363CInvalidSpec)) lawS1363CInvalidCard
/-- ITS FALSE NEIGHBOUR. Refute it at one input. -/
def LawS1363CInvalidToldWrongFalsely : Prop := Claim7.holds Ybaf.pinned (.plain (OpenSpec.ofChange lawS1363CInvalidWrong)) lawS1363CInvalidCard
end Rows
end Go.Proofs.YbulkabeyFmt
