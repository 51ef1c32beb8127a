/-
  SHARED BY THIS SEAT's TWO CARDS: the closed facts on the program that the builder asks; the listed variable's; a start in which the listed variable holds the listed datum.
-/
import Derived.Test.YbulkabeyFmtTie
import Derived.Test.YbulkabeyFmtCards
import Derived.Test.YbulkabeyFmtFacts
import Derived.ProofKit
import Derived.OpenShut
import Derived.ShutString
import Derived.WalkSmall
import Derived.Carry
import Derived.SizedLaws
import Derived.Stop.JoinedAt
import Derived.Stop.JoinedTold
import Derived.Stop.Texts
import Derived.Stop.LaidErr
import Derived.Deep.DeepLaidRun
namespace Go.Proofs.YbulkabeyFmt
open Go.ChangeShapes Go.WideShapes Go.ChangeAt Go.RowKit Go.Kit
open Go.Extern.Stop Go.Stop Go.Extern

theorem own : ownKnob Ybaf.prog.godebug = none := by kernel_rfl
theorem laidOut : laidOutB Ybaf.pinned.checked.prog = true := by kernel_rfl
theorem stops : Ybaf.pinned.checked.prog.stops = ["fmt.errorf"] := by kernel_rfl
theorem stopKnobs : Ybaf.pinned.checked.prog.stopKnobs = [] := by kernel_rfl
theorem quiet (os : Os) : Stop.quiet Ybaf.pinned.checked.prog os := by
  intro k hk
  rw [stopKnobs] at hk
  cases hk
theorem gE : Ybaf.prog.globalNamed gName = some 0 := by kernel_rfl
theorem gEType : (Ybaf.prog.globals[0]?).map (·.type) = some 24 := by kernel_rfl
theorem cells65 : Ybaf.prog.cellsOf 65 = 1 := by kernel_rfl
theorem cells9 : Ybaf.prog.cellsOf 9 = 1 := by kernel_rfl
theorem row63 (u : TypeId) (h : Ybaf.prog.typeName? 3 u = some esName) : u = 63 :=
  typeName_ptr_named (nm := "errors.errorString") (by kernel_rfl) (by kernel_rfl) (by decide) u (h.trans (by kernel_rfl))

/-- A start in which the listed variable holds the listed sentinel: the settled world, one block more. -/
theorem laid_met (os : Os) (args : Array Value) : laidMet Ybaf.prog Rows.lawS1363AOwnLengthRow.laid (World.forCall { World.holding Ybaf.prog os ⟨#[.cells #[.string ⟨#[119, 114, 111, 110, 103, 32, 108, 101, 110, 103, 116, 104]⟩] 65], #[], []⟩ with
      heap := (World.holding Ybaf.prog os ⟨#[.cells #[.string ⟨#[119, 114, 111, 110, 103, 32, 108, 101, 110, 103, 116, 104]⟩] 65], #[], []⟩).heap.modify 0 fun
        | .cells _ t frozen => .cells #[.iface 63 (.pointer (some ⟨(World.settled Ybaf.prog os).heap.size, 0, none⟩))] t frozen
        | o => o } (fun _ _ => 0) ⟨#[], args, []⟩).memory :=
  laidMet_of_run3 8 (by kernel_rfl) (by kernel_rfl) (by kernel_rfl)

end Go.Proofs.YbulkabeyFmt
