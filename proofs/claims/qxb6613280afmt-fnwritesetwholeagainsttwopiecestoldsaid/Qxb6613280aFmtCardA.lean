/-
  What both cards share: the closed facts, the slices of int32s among the arguments, the listed table, and a start that fits.
-/
import Derived.Test.Qxb6613280aFmtTie
import Derived.Test.Qxb6613280aFmtCards
import Derived.Test.Qxb6613280aFmtZz
import Derived.ProofKit
import Derived.WalkSmall
import Derived.Laws.Cover2
import Derived.Lib.LaidU8
import Derived.Lib.LaidTab
import Derived.Stop.JoinedAt
import Derived.Stop.Texts
import Derived.Stop.JoinedTold
import Derived.SevenTiedAt
namespace Go.Proofs.Qxb6613280aFmt
open Go.ChangeShapes Go.WideShapes Go.ChangeAt Go.RowKit Go.Kit
open Go.Extern.Stop Go.Stop Go.Extern

theorem own : ownKnob Tryf.prog.godebug = none := by kernel_rfl
theorem laidOut : laidOutB Tryf.pinned.checked.prog = true := by kernel_rfl
theorem laidOut' : laidOutB Tryf.prog = true := by kernel_rfl
theorem stopsA : Rows.fnWriteSetAcceptsUntilABudgetPassesRow.stops = Tryf.pinned.checked.prog.stops := by kernel_rfl
theorem stopsB : Rows.fnWriteSetWholeAgainstTwoPiecesRow.stops = Tryf.pinned.checked.prog.stops := by kernel_rfl
theorem stopKnobs : Tryf.pinned.checked.prog.stopKnobs = [] := by kernel_rfl
theorem quiet (os : Os) : Stop.quiet Tryf.pinned.checked.prog os := by
  intro k hk
  rw [stopKnobs] at hk
  cases hk

theorem cells21 : Tryf.prog.cellsOf 21 = 1 := by kernel_rfl
theorem cells91 : Tryf.prog.cellsOf 91 = 64 := by kernel_rfl
theorem under91 : Tryf.prog.underlying 91 = some (.array 64 5) := by kernel_rfl
theorem under5 : Tryf.prog.underlying 5 = some (.int .u8) := by kernel_rfl
/-- The name of the listed table that is read: the last of the row's own. -/
def tabName : String := Rows.fnWriteSetAcceptsUntilABudgetPassesRow.named.getLastD ""
theorem gTab : Tryf.prog.globalNamed tabName = some 2 := by kernel_rfl
theorem gTabType : (Tryf.prog.globals[2]?).map (·.type) = some 91 := by kernel_rfl

/-- The numbers of a listed table. -/
def numsOf : DataW Unit → List Int
  | .agg l => l.map fun
    | .lit (.int _ z) => z
    | _ => 0
  | _ => []
theorem tab64 : (Rows.laid_math_bits_deBruijn64tab : DataW Unit) = Lib.tabData .u8 (numsOf Rows.laid_math_bits_deBruijn64tab) := rfl
theorem tab64len : 15 < (numsOf Rows.laid_math_bits_deBruijn64tab).length := by decide

/-- FROM THE LISTED TABLE: the one entry that is read. -/
theorem tab15 {W : World} (h : laidMet Tryf.prog Rows.fnWriteSetAcceptsUntilABudgetPassesRow.laid W) : W.cell? ⟨2, 15, none⟩ = some (.int .u8 4) := by
  obtain ⟨g, t, cs, fuel, p, hg, ht, hv, hd⟩ := Lib.laidMet.reads h (n := tabName) (d := Rows.laid_math_bits_deBruijn64tab) (by simp [Rows.fnWriteSetAcceptsUntilABudgetPassesRow, tabName])
  obtain rfl := Option.some.inj (gTab.symm.trans hg)
  obtain rfl := Option.some.inj (gTabType.symm.trans ht)
  rw [tab64] at hd
  have hc := Lib.cells_of_tab under91 under5 cells5 cells91 hd
  have ht : Lib.TabIs Tryf.prog W tabName .u8 (numsOf Rows.laid_math_bits_deBruijn64tab) := by
    unfold Lib.TabIs
    rw [hv, ← hc]
  exact ht.cell gTab 15 tab64len

/-- A slice of int32s among the arguments. -/
theorem open_i32s {H : Type} {enc : TypeId × Value → H} {W : World} {base : Nat} {v : Value} {d : DataW H} {p : List MemPlace} (hok : Value.okWide Tryf.prog W .any base 22 v) (h : DataW.Trod enc Tryf.prog W 0 (fun _ => true) true 22 v d p) :
    ∃ a xs c, v = .slice a (xs : List Int).length c ∧ Ints a xs W ∧ ∀ x ∈ xs, -2147483648 ≤ x ∧ x ≤ 2147483647 := by
  obtain ⟨a, len, cap, rfl⟩ := okWide_slice Tryf.underlying22 hok
  obtain ⟨fuel, hd⟩ := h
  rcases open_ints Tryf.underlying22 Tryf.underlying21 cells21 hd with ⟨hcs, _⟩ | ⟨a', len', cap', zs, hcs, _, hle, _, hzl, _, hcell, hwf⟩
  · simp [Value.cells] at hcs
    obtain ⟨rfl, rfl, rfl⟩ := hcs
    exact ⟨none, [], 0, rfl, ⟨fun j x hx => by simp at hx⟩, fun x hx => by simp at hx⟩
  · simp [Value.cells] at hcs
    obtain ⟨rfl, rfl, rfl⟩ := hcs
    simp only [if_true] at hzl
    refine ⟨some a', zs.take len, cap, by rw [List.length_take, hzl, Nat.min_eq_left hle], ⟨fun j x hx => ?_⟩, fun x hx => bounds_i32 (hwf x (List.mem_of_mem_take hx))⟩
    have hj := (List.getElem?_eq_some_iff.1 hx).1
    have hj' : j < zs.length := by simp at hj; omega
    obtain ⟨b, off, rfl, hc⟩ := ints_at hcell (by omega)
    refine ⟨b, off, rfl, ?_⟩
    rw [hc j hj']
    have : zs[j]? = some x := by rw [List.getElem?_take] at hx; split at hx <;> simp_all
    simp [List.getD, this]

/-- The cells of a listed table. -/
def cellsOfTab (k : IntKind) (d : DataW Unit) : Array Value := ((numsOf d).map (Value.int k)).toArray

set_option maxRecDepth 1000000 in
/-- One start that fits: the settled world with the three tables laid. -/
theorem laid_met (os : Os) (args : Array Value) :
    laidMet Tryf.prog Rows.fnWriteSetAcceptsUntilABudgetPassesRow.laid
      (({ World.holding Tryf.prog os ⟨#[], #[], []⟩ with
          heap := (((World.holding Tryf.prog os ⟨#[], #[], []⟩).heap.modify 0 fun
            | .cells _ t frozen => .cells (cellsOfTab .u64 Rows.laid_internal_strconv_uint64pow10) t frozen
            | o => o).modify 1 fun
            | .cells _ t frozen => .cells (cellsOfTab .u8 Rows.laid_math_bits_deBruijn32tab) t frozen
            | o => o).modify 2 fun
            | .cells _ t frozen => .cells (cellsOfTab .u8 Rows.laid_math_bits_deBruijn64tab) t frozen
            | o => o } : World).forCall (fun _ _ => 0) ⟨#[], args, []⟩).memory :=
  laidMet_of_run' 8 (by kernel_rfl) (by kernel_rfl)

end Go.Proofs.Qxb6613280aFmt
