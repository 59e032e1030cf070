/-
  DERIVED. GIVEN WITH THE SEED: THE CARDS: each row of Qxb6614033aFmtRows.lean that lists a variable, with what it lists TIED to the program's text (the seventh form; the later family's looks); each row that meets fmt, with fmt's text TOLD by the authors' own Lean function (tested against real Go, not proved from fmt's source: count such statements apart). THE CARD IS WHAT COUNTS. Prove the row's statement (the work); the ties are given (Qxb6614033aFmtTie.lean); close each card by the builder's one call (the guide's Derived/Test/ToyasCard.lean, 'card_holds'). Laid BY PROGRAM, IN A SANDBOX (cutbox-door.mjs). By AI agents, Wed Nov 11 2026. No macro, syntax, notation, axiom, sorry.
-/
import Derived.Test.Qxb6614033aFmtRows
import GoSem.ClaimSeven
namespace Go.Proofs.Qxb6614033aFmt
namespace Rows

/-- THE TOLD AND TIED CARD OF 'zzlaws_root_b1.FnDownstreamThresholdIsExactProduct'. -/
def fnDownstreamThresholdIsExactProductCard : Claim7 := { stood := { row := fnDownstreamThresholdIsExactProductRow, standIns := [], harness := (true, "030046cf8a5368e1797b8a9960b73826d69d09f09891c20063b00eb716b23a15"), looks := false }, told := true, laidByText := true, laidKinds := [.sentinel], laidTests := true, laidLooks := .later, goes := false }
def FnDownstreamThresholdIsExactProductToldSaid : Prop := Claim7.holds Tryf.pinned (.plain (OpenSpec.ofChange fnDownstreamThresholdIsExactProductSpec)) fnDownstreamThresholdIsExactProductCard
/-- ITS FALSE NEIGHBOUR. Refute it at one input. -/
def FnDownstreamThresholdIsExactProductToldWrongFalsely : Prop := Claim7.holds Tryf.pinned (.plain (OpenSpec.ofChange fnDownstreamThresholdIsExactProductWrong)) fnDownstreamThresholdIsExactProductCard

/-- THE TOLD AND TIED CARD OF 'zzlaws_root_b1.FnDownstreamThresholdHalvingP'. -/
def fnDownstreamThresholdHalvingPCard : Claim7 := { stood := { row := fnDownstreamThresholdHalvingPRow, standIns := [], harness := (true, "030046cf8a5368e1797b8a9960b73826d69d09f09891c20063b00eb716b23a15"), looks := false }, told := true, laidByText := true, laidKinds := [.sentinel], laidTests := true, laidLooks := .later, goes := false }
def FnDownstreamThresholdHalvingPToldSaid : Prop := Claim7.holds Tryf.pinned (.plain (OpenSpec.ofChange fnDownstreamThresholdHalvingPSpec)) fnDownstreamThresholdHalvingPCard
/-- ITS FALSE NEIGHBOUR. Refute it at one input. -/
def FnDownstreamThresholdHalvingPToldWrongFalsely : Prop := Claim7.holds Tryf.pinned (.plain (OpenSpec.ofChange fnDownstreamThresholdHalvingPWrong)) fnDownstreamThresholdHalvingPCard
end Rows
end Go.Proofs.Qxb6614033aFmt
