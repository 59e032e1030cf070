/-
  What both cards share: the closed facts, and a start that fits.
-/
import Derived.Test.Qxb6614033aFmtTie
import Derived.Test.Qxb6614033aFmtCards
import Derived.Test.Qxb6614033aFmtFacts
import Derived.ProofKit
import Derived.WalkSmall
import Derived.RowKitTokens
import Derived.Laws.Cover2
import Derived.Stop.JoinedAt
import Derived.Stop.Texts
import Derived.Stop.JoinedTold
import Derived.Stop.LaidErr
import Derived.SevenTiedAt
namespace Go.Proofs.Qxb6614033aFmt
open Go.ChangeShapes Go.WideShapes Go.ChangeAt Go.RowKit Go.Kit
open Go.Extern.Stop Go.Stop Go.Extern

theorem own : ownKnob Tryf.prog.godebug = none := by kernel_rfl
theorem laidOut : laidOutB Tryf.pinned.checked.prog = true := by kernel_rfl
theorem stopsA : Rows.fnDownstreamThresholdIsExactProductRow.stops = Tryf.pinned.checked.prog.stops := by kernel_rfl
theorem stopsB : Rows.fnDownstreamThresholdHalvingPRow.stops = Tryf.pinned.checked.prog.stops := by kernel_rfl
theorem stopKnobs : Tryf.pinned.checked.prog.stopKnobs = [] := by kernel_rfl
theorem quiet (os : Os) : Stop.quiet Tryf.pinned.checked.prog os := by
  intro k hk
  rw [stopKnobs] at hk
  cases hk

/-- The sentinel's name, as the given specification spells it. -/
def sName : String := Rows.fnDownstreamThresholdIsExactProductSpec.vars.headD ""
theorem gE : Tryf.prog.globalNamed sName = some 0 := by kernel_rfl
theorem gEType : (Tryf.prog.globals[0]?).map (·.type) = some 26 := by kernel_rfl
theorem cells55 : Tryf.prog.cellsOf 55 = 1 := by kernel_rfl
theorem cells9 : Tryf.prog.cellsOf 9 = 1 := by kernel_rfl
theorem row53 (u : TypeId) (h : Tryf.prog.typeName? 3 u = some Tryf.errName) : u = 53 := by
  refine typeName_ptr_named (P := Tryf.prog) (nm := "errors.errorString") ?_ (by kernel_rfl) (by decide) u ?_
  · kernel_rfl
  · rw [h]; exact congrArg some (by decide)

/-- One start that fits: the settled world with one block more, the sentinel's text; the variable points at it. -/
theorem laid_met (os : Os) (args : Array Value) :
    laidMet Tryf.prog [(sName, Rows.laid_example_com_fairdraw_fairdraw_ErrProbabilityTooSmall)]
      (({ World.holding Tryf.prog os ⟨#[.cells #[.string ⟨#[102, 97, 105, 114, 100, 114, 97, 119, 58, 32, 112, 114, 111, 98, 97, 98, 105, 108, 105, 116, 121, 32, 105, 115, 32, 98, 101, 108, 111, 119, 32, 50, 94, 45, 53, 54]⟩] 55], #[], []⟩ with
          heap := (World.holding Tryf.prog os ⟨#[.cells #[.string ⟨#[102, 97, 105, 114, 100, 114, 97, 119, 58, 32, 112, 114, 111, 98, 97, 98, 105, 108, 105, 116, 121, 32, 105, 115, 32, 98, 101, 108, 111, 119, 32, 50, 94, 45, 53, 54]⟩] 55], #[], []⟩).heap.modify 0 fun
            | .cells _ t frozen => .cells #[.iface 53 (.pointer (some ⟨(World.holding Tryf.prog default ⟨#[], #[], []⟩).heap.size, 0, none⟩))] t frozen
            | o => o } : World).forCall (fun _ _ => 0) ⟨#[], args, []⟩).memory :=
  laidMet_of_run (ps := [.cell 0 0, .cell (World.holding Tryf.prog default ⟨#[], #[], []⟩).heap.size 0]) 8 (by kernel_rfl) (by kernel_rfl) (by kernel_rfl)

end Go.Proofs.Qxb6614033aFmt
