/-
  No cell of these rows narrows 'for every input' (looked for: loops, veiled, ifaces, maps, wideKeys, modest, calm, conditions, laid).
  DERIVED. THE GIVEN ROWS OF THIS SEAT. 2 by the template 'for every input the law returns true; each argument reads behind the call as it read before'; 0 by the template 'total and deterministic' (their statements: Qxb6613223aTotals.lean).
  GIVEN WITH THE SEED: the statements are not yours to turn. If you find one false, say at which input.
  Laid BY PROGRAM, IN A SANDBOX (cutbox-rows.mjs): the forced cells as the released guide's own fill.sh prints them over the translation 21eea95b2519df95… (all of the seat's roots in one cut). By AI agents, Wed Nov 11 2026. No macro, syntax, notation, axiom, sorry.
-/
import Derived.Test.Qxb6613223aChecked
import GoSem.Claim
import GoSem.ClaimJoined
import GoSem.ClaimMapViews
import Derived.JoinedTies
import Derived.KernelRfl
namespace Go.Proofs.Qxb6613223a
/- THE CELL 'sum', in the pinned program and in every row, IS THE sha256 OF THE DUMP (.gsa) THAT Qxb6613223aProg.lean LOADS. Nothing in Lean hashes anything: it is a label: what it is worth is what the hold of that sum in a sandbox is worth. -/
noncomputable def Try.pinned : Pinned := { name := "qxb6613223a", sum := "21eea95b2519df954c03134a65658916adfa835cedbcfc75f8c31a7af4fba1df", checked := Try.checked }
namespace Rows
def none {H : Type} : Left H := { results := [], args := [] }

/-- 'zzlaws_yamltext_b1.FnAbandonedRestAgreesWithPastLast': WHATEVER THE INPUT: true; the input reads as it did. -/
def fnAbandonedRestAgreesWithPastLastSpec : ChangeSpec := { name := "fnAbandonedRestAgreesWithPastLast", fn := fun _ => fun
  | [d1, d2] => { results := [.lit (.bool true)], args := [d1, d2] }
  | _ => none }
def fnAbandonedRestAgreesWithPastLastRow : OpenClaim := { program := "qxb6613223a", sum := "21eea95b2519df954c03134a65658916adfa835cedbcfc75f8c31a7af4fba1df", func := "example.com/forbear/forbear/zzlaws_yamltext_b1.FnAbandonedRestAgreesWithPastLast", spec := "fnAbandonedRestAgreesWithPastLast", inPlace := ["sync/atomic.StoreInt64", "sync/atomic.LoadInt64"], apart := false }
def FnAbandonedRestAgreesWithPastLastSaid : Prop := fnAbandonedRestAgreesWithPastLastRow.holds Try.pinned (OpenSpec.ofChange fnAbandonedRestAgreesWithPastLastSpec)

/-- ITS FALSE NEIGHBOUR: 'it returns false'. Refute it at one input. -/
def fnAbandonedRestAgreesWithPastLastWrong : ChangeSpec := { name := "fnAbandonedRestAgreesWithPastLast", fn := fun _ => fun
  | [d1, d2] => { results := [.lit (.bool false)], args := [d1, d2] }
  | _ => none }
def FnAbandonedRestAgreesWithPastLastWrongFalsely : Prop := fnAbandonedRestAgreesWithPastLastRow.holds Try.pinned (OpenSpec.ofChange fnAbandonedRestAgreesWithPastLastWrong)

/-- 'zzlaws_yamltext_b1.FnAbandonedStaysAbandoned': WHATEVER THE INPUT: true; the input reads as it did. -/
def fnAbandonedStaysAbandonedSpec : ChangeSpec := { name := "fnAbandonedStaysAbandoned", fn := fun _ => fun
  | [d1, d2, d3, d4] => { results := [.lit (.bool true)], args := [d1, d2, d3, d4] }
  | _ => none }
def fnAbandonedStaysAbandonedRow : OpenClaim := { program := "qxb6613223a", sum := "21eea95b2519df954c03134a65658916adfa835cedbcfc75f8c31a7af4fba1df", func := "example.com/forbear/forbear/zzlaws_yamltext_b1.FnAbandonedStaysAbandoned", spec := "fnAbandonedStaysAbandoned", inPlace := ["sync/atomic.StoreInt64", "sync/atomic.LoadInt64"], apart := false }
def FnAbandonedStaysAbandonedSaid : Prop := fnAbandonedStaysAbandonedRow.holds Try.pinned (OpenSpec.ofChange fnAbandonedStaysAbandonedSpec)

/-- ITS FALSE NEIGHBOUR: 'it returns false'. Refute it at one input. -/
def fnAbandonedStaysAbandonedWrong : ChangeSpec := { name := "fnAbandonedStaysAbandoned", fn := fun _ => fun
  | [d1, d2, d3, d4] => { results := [.lit (.bool false)], args := [d1, d2, d3, d4] }
  | _ => none }
def FnAbandonedStaysAbandonedWrongFalsely : Prop := fnAbandonedStaysAbandonedRow.holds Try.pinned (OpenSpec.ofChange fnAbandonedStaysAbandonedWrong)

end Rows
end Go.Proofs.Qxb6613223a
