/-
  No cell of these rows narrows 'for every input' (looked for: loops, veiled, ifaces, maps, wideKeys, modest, calm, conditions, laid).
  DERIVED. THE GIVEN ROWS OF THIS SEAT. 2 by the template 'for every input the law returns true; each argument reads behind the call as it read before'; 0 by the template 'total and deterministic' (their statements: Qxb6614033aTotals.lean).
  GIVEN WITH THE SEED: the statements are not yours to turn. If you find one false, say at which input.
  Laid BY PROGRAM, IN A SANDBOX (cutbox-rows.mjs): the forced cells as the released guide's own fill.sh prints them over the translation d94a1e013f336cb3… (all of the seat's roots in one cut). By AI agents, Wed Nov 11 2026. No macro, syntax, notation, axiom, sorry.
-/
import Derived.Test.Qxb6614033aChecked
import GoSem.Claim
import GoSem.ClaimJoined
import GoSem.ClaimMapViews
import Derived.JoinedTies
import Derived.KernelRfl
namespace Go.Proofs.Qxb6614033a
/- THE CELL 'sum', in the pinned program and in every row, IS THE sha256 OF THE DUMP (.gsa) THAT Qxb6614033aProg.lean LOADS. Nothing in Lean hashes anything: it is a label: what it is worth is what the hold of that sum in a sandbox is worth. -/
noncomputable def Try.pinned : Pinned := { name := "qxb6614033a", sum := "d94a1e013f336cb324f4c15055dcc97b557e7e651d4cfb990d497f5ea7f5d398", checked := Try.checked }
namespace Rows
def none {H : Type} : Left H := { results := [], args := [] }

/-- 'zzlaws_root_b1.FnKeepsIsTheOrder': WHATEVER THE INPUT: true; the input reads as it did. -/
def fnKeepsIsTheOrderSpec : ChangeSpec := { name := "fnKeepsIsTheOrder", fn := fun _ => fun
  | [d1, d2] => { results := [.lit (.bool true)], args := [d1, d2] }
  | _ => none }
def fnKeepsIsTheOrderRow : OpenClaim := { program := "qxb6614033a", sum := "d94a1e013f336cb324f4c15055dcc97b557e7e651d4cfb990d497f5ea7f5d398", func := "example.com/fairdraw/fairdraw/zzlaws_root_b1.FnKeepsIsTheOrder", spec := "fnKeepsIsTheOrder", apart := false }
def FnKeepsIsTheOrderSaid : Prop := fnKeepsIsTheOrderRow.holds Try.pinned (OpenSpec.ofChange fnKeepsIsTheOrderSpec)

/-- ITS FALSE NEIGHBOUR: 'it returns false'. Refute it at one input. -/
def fnKeepsIsTheOrderWrong : ChangeSpec := { name := "fnKeepsIsTheOrder", fn := fun _ => fun
  | [d1, d2] => { results := [.lit (.bool false)], args := [d1, d2] }
  | _ => none }
def FnKeepsIsTheOrderWrongFalsely : Prop := fnKeepsIsTheOrderRow.holds Try.pinned (OpenSpec.ofChange fnKeepsIsTheOrderWrong)

/-- 'zzlaws_root_b1.FnKeepsAgreesWithThText': WHATEVER THE INPUT: true; the input reads as it did. -/
def fnKeepsAgreesWithThTextSpec : ChangeSpec := { name := "fnKeepsAgreesWithThText", fn := fun _ => fun
  | [d1, d2] => { results := [.lit (.bool true)], args := [d1, d2] }
  | _ => none }
def fnKeepsAgreesWithThTextRow : OpenClaim := { program := "qxb6614033a", sum := "d94a1e013f336cb324f4c15055dcc97b557e7e651d4cfb990d497f5ea7f5d398", func := "example.com/fairdraw/fairdraw/zzlaws_root_b1.FnKeepsAgreesWithThText", spec := "fnKeepsAgreesWithThText", apart := false }
def FnKeepsAgreesWithThTextSaid : Prop := fnKeepsAgreesWithThTextRow.holds Try.pinned (OpenSpec.ofChange fnKeepsAgreesWithThTextSpec)

/-- ITS FALSE NEIGHBOUR: 'it returns false'. Refute it at one input. -/
def fnKeepsAgreesWithThTextWrong : ChangeSpec := { name := "fnKeepsAgreesWithThText", fn := fun _ => fun
  | [d1, d2] => { results := [.lit (.bool false)], args := [d1, d2] }
  | _ => none }
def FnKeepsAgreesWithThTextWrongFalsely : Prop := fnKeepsAgreesWithThTextRow.holds Try.pinned (OpenSpec.ofChange fnKeepsAgreesWithThTextWrong)

end Rows
end Go.Proofs.Qxb6614033a
