/-
  NARROWER THAN 'FOR EVERY INPUT', by the rows' own cells (each row's printed sentence says how): FnDownstreamThresholdIsExactProduct: ifaces, laid · FnDownstreamThresholdHalvingP: ifaces, laid.
  DERIVED. THE GIVEN ROWS OF THIS SEAT. 2 by the template 'for every input the law returns true; each argument reads behind the call as it read before'; 0 by the template 'total and deterministic' (their statements: Qxb6614033aFmtTotals.lean).
  GIVEN WITH THE SEED: the statements are not yours to turn. If you find one false, say at which input.
  Laid BY PROGRAM, IN A SANDBOX (cutbox-rows.mjs): the forced cells as the released guide's own fill.sh prints them over the translation 5971a6a59ca84c92… (all of the seat's roots in one cut). By AI agents, Wed Nov 11 2026. No macro, syntax, notation, axiom, sorry.
-/
import Derived.Test.Qxb6614033aFmtChecked
import GoSem.Claim
import GoSem.ClaimJoined
import GoSem.ClaimMapViews
import Derived.JoinedTies
import Derived.KernelRfl
namespace Go.Proofs.Qxb6614033aFmt
/- THE CELL 'sum', in the pinned program and in every row, IS THE sha256 OF THE DUMP (.gsa) THAT Qxb6614033aFmtProg.lean LOADS. Nothing in Lean hashes anything: it is a label: what it is worth is what the hold of that sum in a sandbox is worth. -/
noncomputable def Tryf.pinned : Pinned := { name := "qxb6614033afmt", sum := "5971a6a59ca84c921f017716f1014cff1b38d90d80934c26fe4f1268d77bf11b", checked := Tryf.checked }
namespace Rows
def none {H : Type} : Left H := { results := [], args := [] }

/- WHAT THE LISTED PACKAGE-LEVEL VARIABLES READ AS WHEN THE CALL BEGINS. Each datum BY PROGRAM (the guide's laid-datum.mjs) off the statement by which the dump's own 'gosem.cut.vars' lays the variable. In a bare row this is a premise. The card (Qxb6614033aFmtCards.lean) ties it to the program's text. -/
def laid_example_com_fairdraw_fairdraw_ErrProbabilityTooSmall {H : Type} : DataW H := .iface "*errors.errorString" (.ptr (.agg [.lit (.string [102, 97, 105, 114, 100, 114, 97, 119, 58, 32, 112, 114, 111, 98, 97, 98, 105, 108, 105, 116, 121, 32, 105, 115, 32, 98, 101, 108, 111, 119, 32, 50, 94, 45, 53, 54])]))

/-- 'zzlaws_root_b1.FnDownstreamThresholdIsExactProduct': WHATEVER THE INPUT: true; the input reads as it did. -/
def fnDownstreamThresholdIsExactProductSpec : ChangeSpec := { name := "fnDownstreamThresholdIsExactProduct", vars := ["example.com/fairdraw/fairdraw.ErrProbabilityTooSmall"], fn := fun _ => fun
  | [d1, d2, g1] => { results := [.lit (.bool true)], args := [d1, d2], vars := [g1] }
  | _ => none }
def fnDownstreamThresholdIsExactProductRow : OpenClaim := { program := "qxb6614033afmt", sum := "5971a6a59ca84c921f017716f1014cff1b38d90d80934c26fe4f1268d77bf11b", func := "example.com/fairdraw/fairdraw/zzlaws_root_b1.FnDownstreamThresholdIsExactProduct", spec := "fnDownstreamThresholdIsExactProduct", stops := ["fmt.errorf, its operands' methods called"], inPlace := ["fmt.errorf", "math.Float64bits", "math.Float64frombits"], unfollowed := true, recurses := true, named := ["example.com/fairdraw/fairdraw.ErrProbabilityTooSmall"], ifaces := true, apart := false, laid := [("example.com/fairdraw/fairdraw.ErrProbabilityTooSmall", laid_example_com_fairdraw_fairdraw_ErrProbabilityTooSmall)] }
/-- NO THEOREM (fmt's text is open here; it may be false): for the released tool's asking of the row's closed facts alone. THE STATEMENT IS 'FnDownstreamThresholdIsExactProductToldSaid' (Qxb6614033aFmtCards.lean). -/
def FnDownstreamThresholdIsExactProductFormAsk : Prop := fnDownstreamThresholdIsExactProductRow.holds Tryf.pinned (OpenSpec.ofChange fnDownstreamThresholdIsExactProductSpec)

/-- ITS FALSE NEIGHBOUR: 'it returns false'. Refute it at one input. -/
def fnDownstreamThresholdIsExactProductWrong : ChangeSpec := { name := "fnDownstreamThresholdIsExactProduct", vars := ["example.com/fairdraw/fairdraw.ErrProbabilityTooSmall"], fn := fun _ => fun
  | [d1, d2, g1] => { results := [.lit (.bool false)], args := [d1, d2], vars := [g1] }
  | _ => none }
def FnDownstreamThresholdIsExactProductWrongFormAsk : Prop := fnDownstreamThresholdIsExactProductRow.holds Tryf.pinned (OpenSpec.ofChange fnDownstreamThresholdIsExactProductWrong)

/-- 'zzlaws_root_b1.FnDownstreamThresholdHalvingP': WHATEVER THE INPUT: true; the input reads as it did. -/
def fnDownstreamThresholdHalvingPSpec : ChangeSpec := { name := "fnDownstreamThresholdHalvingP", vars := ["example.com/fairdraw/fairdraw.ErrProbabilityTooSmall"], fn := fun _ => fun
  | [d1, d2, g1] => { results := [.lit (.bool true)], args := [d1, d2], vars := [g1] }
  | _ => none }
def fnDownstreamThresholdHalvingPRow : OpenClaim := { program := "qxb6614033afmt", sum := "5971a6a59ca84c921f017716f1014cff1b38d90d80934c26fe4f1268d77bf11b", func := "example.com/fairdraw/fairdraw/zzlaws_root_b1.FnDownstreamThresholdHalvingP", spec := "fnDownstreamThresholdHalvingP", stops := ["fmt.errorf, its operands' methods called"], inPlace := ["fmt.errorf", "math.Float64bits", "math.Float64frombits"], unfollowed := true, recurses := true, named := ["example.com/fairdraw/fairdraw.ErrProbabilityTooSmall"], ifaces := true, apart := false, laid := [("example.com/fairdraw/fairdraw.ErrProbabilityTooSmall", laid_example_com_fairdraw_fairdraw_ErrProbabilityTooSmall)] }
/-- NO THEOREM (fmt's text is open here; it may be false): for the released tool's asking of the row's closed facts alone. THE STATEMENT IS 'FnDownstreamThresholdHalvingPToldSaid' (Qxb6614033aFmtCards.lean). -/
def FnDownstreamThresholdHalvingPFormAsk : Prop := fnDownstreamThresholdHalvingPRow.holds Tryf.pinned (OpenSpec.ofChange fnDownstreamThresholdHalvingPSpec)

/-- ITS FALSE NEIGHBOUR: 'it returns false'. Refute it at one input. -/
def fnDownstreamThresholdHalvingPWrong : ChangeSpec := { name := "fnDownstreamThresholdHalvingP", vars := ["example.com/fairdraw/fairdraw.ErrProbabilityTooSmall"], fn := fun _ => fun
  | [d1, d2, g1] => { results := [.lit (.bool false)], args := [d1, d2], vars := [g1] }
  | _ => none }
def FnDownstreamThresholdHalvingPWrongFormAsk : Prop := fnDownstreamThresholdHalvingPRow.holds Tryf.pinned (OpenSpec.ofChange fnDownstreamThresholdHalvingPWrong)

end Rows
end Go.Proofs.Qxb6614033aFmt
