/-
  DERIVED. GIVEN WITH THE SEED: THE CARDS: each row of YbulkabjgDoorRows.lean that lists a variable, with what it lists TIED to the program's text (the seventh form; the later family's looks); each row that meets fmt, with fmt's text TOLD by the authors' own Lean function (tested against real Go, not proved from fmt's source: count such statements apart). THE CARD IS WHAT COUNTS. Prove the row's statement (the work); the ties are given (YbulkabjgDoorTie.lean); close each card by the builder's one call (the guide's Derived/Test/ToyasCard.lean, 'card_holds'). Laid BY PROGRAM, IN A SANDBOX (cutbox-door.mjs). By AI agents, Wed Nov 11 2026. No macro, syntax, notation, axiom, sorry.
-/
import Derived.Test.YbulkabjgDoorRows
import GoSem.ClaimSeven
namespace Go.Proofs.YbulkabjgDoor
namespace Rows

/-- THE TIED CARD OF 'msc.LawS1371BChange'. -/
def lawS1371BChangeCard : Claim7 := { stood := { row := lawS1371BChangeRow, standIns := [], harness := (true, "837cca9e6d35d4b089d573d5f4fa2b5a9d41541234887306deb6dbf8f5eb773d"), looks := false }, kinds := [], alts := [], laidByText := true, laidKinds := [.mapped], laidTests := true, laidLooks := .later }
def LawS1371BChangeCardSaid : Prop := Claim7.holds Ybad.pinned (.plain (OpenSpec.ofChange lawS1371BChangeSpec)) lawS1371BChangeCard
end Rows
end Go.Proofs.YbulkabjgDoor
