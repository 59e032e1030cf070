/-
  'Rows.FnAbandonedRestAgreesWithPastLastSaid' proved: the walk out of the contracts of Qxb6613223aParts.lean; the row's step after the seat's shell.
-/
import Derived.Test.Qxb6613223aParts
import Derived.WalkKit
import Derived.ProofKit
import Derived.OpenShut
import Derived.ShutString
namespace Go.Proofs.Qxb6613223a.fnAbandonedRestAgreesWithPastLast
open Go.ChangeShapes Go.WideShapes Go.ChangeAt Go.RowKit
open Go.ChangeMaps (open_string shut_string)
set_option linter.unusedVariables false      -- a walk need not use every 'w<i>' (that an integer argument fits its kind)

theorem own : ownKnob Try.prog.godebug = none := by kernel_rfl

/-! ### THE WALK -/
set_option maxHeartbeats 1000000 in
theorem walk (a0 : Int) (a1 : Int) (w0 : (Lit.int .i64 a0).wf = true) (w1 : (Lit.int .i64 a1).wf = true) (w : World) :
    Calls Try.prog 3 #[.int .i64 a0, .int .i64 a1] w fun e w' => e = .returned (.bool true) ∧ Below w.heap.size w w' := by
  obtain ⟨l0, u0⟩ := bounds_i64 w0
  obtain ⟨l1, u1⟩ := bounds_i64 w1
  clear w0 w1
  by_cases h1 : a0 < 0
  · have d1 : decide (a0 < 0) = true := decide_eq_true h1
    go_enter Try.func3, Try.ntmps3
    go_wp2
    go_ret
    exact ⟨rfl, Below.refl _ _⟩
  have d1 : decide (a0 < 0) = false := decide_eq_false h1
  by_cases h2 : 65536 < a0
  · have d2 : decide (65536 < a0) = true := decide_eq_true h2
    go_enter Try.func3, Try.ntmps3
    go_wp2
    go_ret
    exact ⟨rfl, Below.refl _ _⟩
  have d2 : decide (65536 < a0) = false := decide_eq_false h2
  obtain ⟨n, rfl⟩ := Int.eq_ofNat_of_zero_le (show 0 ≤ a0 by omega)
  have hn : n ≤ 65536 := by omega
  clear h1 h2 l0 u0
  by_cases h3 : a1 < 0
  · have d3 : decide (a1 < 0) = true := decide_eq_true h3
    go_enter Try.func3, Try.ntmps3
    go_wp2
    go_ret
    exact ⟨rfl, Below.refl _ _⟩
  have d3 : decide (a1 < 0) = false := decide_eq_false h3
  by_cases h4 : (n : Int) + 1 < a1
  · have d4 : decide ((n : Int) + 1 < a1) = true := decide_eq_true h4
    go_enter Try.func3, Try.ntmps3
    go_wp2
    go_ret
    exact ⟨rfl, Below.refl _ _⟩
  have d4 : decide ((n : Int) + 1 < a1) = false := decide_eq_false h4
  have b3 : 0 ≤ a1 := by omega
  have b4 : a1 ≤ (n : Int) + 1 := by omega
  clear h3 h4
  have HA : Hid (aband a1 ((n : Int) + 1) n = aband a1 0 n ∧ aband a1 0 n = decide (a1 ≤ (n : Int))) := by
    unfold aband
    refine ⟨?_, ?_⟩
    · rw [if_neg (show ¬ a1 < 0 by omega), if_pos rfl, if_neg (show ¬ (n : Int) + 1 = 0 by omega)]
      by_cases h : a1 < (n : Int) + 1
      · rw [if_pos h]; exact (decide_eq_true (by omega)).symm
      · rw [if_neg h]; exact (decide_eq_false (by omega)).symm
    · rw [if_neg (show ¬ a1 < 0 by omega), if_pos rfl]
  go_enter Try.func3, Try.ntmps3
  go_wp2_with fail
  refine (new_any n a1 _ hn).mono ?_
  rintro e w1 ⟨B, ad, rfl, hB, c7, c9, hb⟩
  go_wp2_with fail
  refine (zzAbandoned_any B n ad a1 0 _ c7 c9).mono ?_
  rintro e w2 ⟨rfl, rfl⟩
  go_wp2_with fail
  refine (zzAbandoned_any B n ad a1 _ _ c7 c9).mono ?_
  rintro e w3 ⟨rfl, rfl⟩
  rw [HA.out.1, HA.out.2]
  go_wp2
  go_ret
  exact ⟨rfl, hb⟩

/-! ### THE ROW's STEP: WRITTEN OUT: LEAVE IT -/
set_option maxRecDepth 100000 in
theorem lifted (os : Os) (started : os.Started) (H : Type) (enc : TypeId × Value → H) :
    ReturnsInHanded {} Try.checked os 3 .any (Rows.fnAbandonedRestAgreesWithPastLastSpec.pre6 enc Try.prog Try.f3 Rows.fnAbandonedRestAgreesWithPastLastRow.domain false) (Rows.fnAbandonedRestAgreesWithPastLastSpec.post enc Try.prog Try.f3 false true false false) := by
  refine returnsInHanded_of_change (C := Try.checked) own started (by kernel_rfl) Try.func3
    (ChangeSpec.witness6 (enc := enc) (C := Try.checked) false ⟨#[], #[.int .i64 0, .int .i64 0], []⟩ 8 (by kernel_rfl) (by kernel_rfl) (by kernel_rfl) (by kernel_rfl)) ?_
  intro W base args ds gs before hval0 hW hcnd _
  have hval : ∀ (j : Nat) t v, Try.f3.params[j]? = some t → args[j]? = some v → Value.okWide Try.prog W .any base t v := hval0
  have hW' := hW
  obtain ⟨p, q, hA0, hV, rfl, hfz, hnd⟩ := hW
  have hA : DataW.TrodAll enc Try.prog W 0 (fun _ => true) true Try.f3.params.toList args.toList ds p := hA0
  rw [Try.params3] at hA hval
  obtain ⟨v0, vs0, d0, ds0, p0, q0, hargs, rfl, rfl, h0, r0⟩ := trodAll_cons hA
  obtain ⟨v1, vs1, d1, ds1, p1, q1, rfl, rfl, rfl, h1, r1⟩ := trodAll_cons r0
  obtain ⟨rfl, rfl, rfl⟩ := trodAll_nil r1
  obtain rfl : args = #[v0, v1] := by cases args; simp_all
  obtain ⟨rfl, rfl⟩ := trodVars_none hV
  obtain ⟨a0, rfl, rfl, rfl, w0⟩ := open_int Try.underlying3 (hval 0 3 v0 rfl rfl) h0
  obtain ⟨a1, rfl, rfl, rfl, w1⟩ := open_int Try.underlying2 (hval 1 2 v1 rfl rfl) h1
  clear hA0 hval0
  simp only [List.append_nil] at hW'
  refine (walk a0 a1 w0 w1 W).mono fun e W' ⟨he, hg⟩ => ?_
  subst he
  refine ⟨_, rfl, _, _, _, [], [], [], hW', (trodAll_cons_mk (shut_bool Try.underlying4 _) trodAll_mk0), (trodAll_cons_mk (shut_int Try.underlying3 w0) (trodAll_cons_mk (shut_int Try.underlying2 w1) trodAll_mk0)), rfl, hg.frame _, fun h => by cases h⟩

theorem over : Rows.fnAbandonedRestAgreesWithPastLastRow.holds Try.pinned (OpenSpec.ofChange Rows.fnAbandonedRestAgreesWithPastLastSpec) :=
  OpenClaim.holds_of_wide 3 Try.f3 rfl rfl rfl rfl rfl rfl rfl ⟨rfl, rfl, rfl, rfl, rfl⟩ rfl rfl rfl rfl rfl (by kernel_rfl) Try.func3 (by kernel_rfl)
    (of_decide_eq_true (by kernel_rfl)) (by unfold Func.isWrapper; first | (rw [if_pos (by decide +kernel)]; kernel_rfl) | (rw [if_neg (by decide +kernel)]; exact ⟨rfl, rfl⟩))
    (fun os started H enc _ => lifted os started H enc)

/-- ████ THE STATEMENT ████ -/
theorem proved : Rows.FnAbandonedRestAgreesWithPastLastSaid :=
  over
end Go.Proofs.Qxb6613223a.fnAbandonedRestAgreesWithPastLast
