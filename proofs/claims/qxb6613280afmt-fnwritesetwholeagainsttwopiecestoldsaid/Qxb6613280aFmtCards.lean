/-
  DERIVED. GIVEN WITH THE SEED: THE CARDS: each row of Qxb6613280aFmtRows.lean that lists a variable, with what it lists TIED to the program's text (the seventh form; the later family's looks); each row that meets fmt, with fmt's text TOLD by the authors' own Lean function (tested against real Go, not proved from fmt's source: count such statements apart). THE CARD IS WHAT COUNTS. Prove the row's statement (the work); the ties are given (Qxb6613280aFmtTie.lean); close each card by the builder's one call (the guide's Derived/Test/ToyasCard.lean, 'card_holds'). Laid BY PROGRAM, IN A SANDBOX (cutbox-door.mjs). By AI agents, Wed Nov 11 2026. No macro, syntax, notation, axiom, sorry.
-/
import Derived.Test.Qxb6613280aFmtRows
import GoSem.ClaimSeven
namespace Go.Proofs.Qxb6613280aFmt
namespace Rows

/-- THE TOLD AND TIED CARD OF 'zzlaws_internal_ecmaregexp_b1.FnWriteSetWholeAgainstTwoPieces'. -/
def fnWriteSetWholeAgainstTwoPiecesCard : Claim7 := { stood := { row := fnWriteSetWholeAgainstTwoPiecesRow, standIns := [], harness := (true, "ff8b9599882f6b3122e66df0b20211e319674007a06060bc1a4c703e69bb4873"), looks := false }, told := true, laidByText := true, laidKinds := [.data, .data, .data], laidTests := true, laidLooks := .later, goes := false }
def FnWriteSetWholeAgainstTwoPiecesToldSaid : Prop := Claim7.holds Tryf.pinned (.plain (OpenSpec.ofChange fnWriteSetWholeAgainstTwoPiecesSpec)) fnWriteSetWholeAgainstTwoPiecesCard
/-- ITS FALSE NEIGHBOUR. Refute it at one input. -/
def FnWriteSetWholeAgainstTwoPiecesToldWrongFalsely : Prop := Claim7.holds Tryf.pinned (.plain (OpenSpec.ofChange fnWriteSetWholeAgainstTwoPiecesWrong)) fnWriteSetWholeAgainstTwoPiecesCard

/-- THE TOLD AND TIED CARD OF 'zzlaws_internal_ecmaregexp_b1.FnWriteSetAcceptsUntilABudgetPasses'. -/
def fnWriteSetAcceptsUntilABudgetPassesCard : Claim7 := { stood := { row := fnWriteSetAcceptsUntilABudgetPassesRow, standIns := [], harness := (true, "ff8b9599882f6b3122e66df0b20211e319674007a06060bc1a4c703e69bb4873"), looks := false }, told := true, laidByText := true, laidKinds := [.data, .data, .data], laidTests := true, laidLooks := .later, goes := false }
def FnWriteSetAcceptsUntilABudgetPassesToldSaid : Prop := Claim7.holds Tryf.pinned (.plain (OpenSpec.ofChange fnWriteSetAcceptsUntilABudgetPassesSpec)) fnWriteSetAcceptsUntilABudgetPassesCard
/-- ITS FALSE NEIGHBOUR. Refute it at one input. -/
def FnWriteSetAcceptsUntilABudgetPassesToldWrongFalsely : Prop := Claim7.holds Tryf.pinned (.plain (OpenSpec.ofChange fnWriteSetAcceptsUntilABudgetPassesWrong)) fnWriteSetAcceptsUntilABudgetPassesCard
end Rows
end Go.Proofs.Qxb6613280aFmt
