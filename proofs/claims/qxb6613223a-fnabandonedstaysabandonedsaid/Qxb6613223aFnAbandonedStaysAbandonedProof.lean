/-
  'Rows.FnAbandonedStaysAbandonedSaid' proved: the walk out of the contracts of Qxb6613223aParts.lean; the row's step after the seat's shell.
-/
import Derived.Test.Qxb6613223aParts
import Derived.WalkKit
import Derived.ProofKit
import Derived.OpenShut
import Derived.ShutString
namespace Go.Proofs.Qxb6613223a.fnAbandonedStaysAbandoned
open Go.ChangeShapes Go.WideShapes Go.ChangeAt Go.RowKit
open Go.ChangeMaps (open_string shut_string)
set_option linter.unusedVariables false      -- a walk need not use every 'w<i>' (that an integer argument fits its kind)

theorem own : ownKnob Try.prog.godebug = none := by kernel_rfl

/-! ### THE WALK -/
set_option maxHeartbeats 1000000 in
theorem walk (a0 : Int) (a1 : Int) (a2 : Int) (a3 : Int) (w0 : (Lit.int .i64 a0).wf = true) (w1 : (Lit.int .i64 a1).wf = true) (w2 : (Lit.int .i64 a2).wf = true) (w3 : (Lit.int .i64 a3).wf = true) (w : World) :
    Calls Try.prog 4 #[.int .i64 a0, .int .i64 a1, .int .i64 a2, .int .i64 a3] w fun e w' => e = .returned (.bool true) ∧ Below w.heap.size w w' := by
  obtain ⟨l0, u0⟩ := bounds_i64 w0
  obtain ⟨l1, u1⟩ := bounds_i64 w1
  obtain ⟨l2, u2⟩ := bounds_i64 w2
  obtain ⟨l3, u3⟩ := bounds_i64 w3
  clear w0 w1 w2 w3
  by_cases h1 : a0 < 0
  · have d1 : decide (a0 < 0) = true := decide_eq_true h1
    go_enter Try.func4, Try.ntmps4
    go_wp2
    go_ret
    exact ⟨rfl, Below.refl _ _⟩
  have d1 : decide (a0 < 0) = false := decide_eq_false h1
  by_cases h2 : 65536 < a0
  · have d2 : decide (65536 < a0) = true := decide_eq_true h2
    go_enter Try.func4, Try.ntmps4
    go_wp2
    go_ret
    exact ⟨rfl, Below.refl _ _⟩
  have d2 : decide (65536 < a0) = false := decide_eq_false h2
  obtain ⟨n, rfl⟩ := Int.eq_ofNat_of_zero_le (show 0 ≤ a0 by omega)
  have hn : n ≤ 65536 := by omega
  clear h1 h2 l0 u0
  by_cases h3 : a1 < 0
  · have d3 : decide (a1 < 0) = true := decide_eq_true h3
    go_enter Try.func4, Try.ntmps4
    go_wp2
    go_ret
    exact ⟨rfl, Below.refl _ _⟩
  have d3 : decide (a1 < 0) = false := decide_eq_false h3
  by_cases h4 : (n : Int) + 1 < a1
  · have d4 : decide ((n : Int) + 1 < a1) = true := decide_eq_true h4
    go_enter Try.func4, Try.ntmps4
    go_wp2
    go_ret
    exact ⟨rfl, Below.refl _ _⟩
  have d4 : decide ((n : Int) + 1 < a1) = false := decide_eq_false h4
  by_cases h5 : a2 < 0
  · have d5 : decide (a2 < 0) = true := decide_eq_true h5
    go_enter Try.func4, Try.ntmps4
    go_wp2
    go_ret
    exact ⟨rfl, Below.refl _ _⟩
  have d5 : decide (a2 < 0) = false := decide_eq_false h5
  by_cases h6 : a1 < a2
  · have d6 : decide (a1 < a2) = true := decide_eq_true h6
    go_enter Try.func4, Try.ntmps4
    go_wp2
    go_ret
    exact ⟨rfl, Below.refl _ _⟩
  have d6 : decide (a1 < a2) = false := decide_eq_false h6
  by_cases h7 : a3 < 0
  · have d7 : decide (a3 < 0) = true := decide_eq_true h7
    go_enter Try.func4, Try.ntmps4
    go_wp2
    go_ret
    exact ⟨rfl, Below.refl _ _⟩
  have d7 : decide (a3 < 0) = false := decide_eq_false h7
  by_cases h8 : (n : Int) < a3
  · have d8 : decide ((n : Int) < a3) = true := decide_eq_true h8
    go_enter Try.func4, Try.ntmps4
    go_wp2
    go_ret
    exact ⟨rfl, Below.refl _ _⟩
  have d8 : decide ((n : Int) < a3) = false := decide_eq_false h8
  have b1 : 0 ≤ a1 := by omega
  have b2 : a1 ≤ (n : Int) + 1 := by omega
  have b3 : 0 ≤ a2 := by omega
  have b4 : a2 ≤ a1 := by omega
  have b5 : 0 ≤ a3 := by omega
  have b6 : a3 ≤ (n : Int) := by omega
  clear h3 h4 h5 h6 h7 h8
  have H1 : Hid (aband a1 a3 n = true → aband a2 a3 n = true) := by
    unfold aband
    by_cases h : a1 < a3
    · rw [if_pos h, if_pos (by omega)]; exact fun h => h
    · rw [if_neg h]
      by_cases h' : a2 < a3
      · rw [if_pos h']; exact fun _ => rfl
      · rw [if_neg h']
        by_cases hz : a3 = 0
        · rw [if_pos hz, if_pos hz]
          intro hh
          have := of_decide_eq_true hh
          exact decide_eq_true (by omega)
        · rw [if_neg hz, if_neg hz]; exact fun h => h
  by_cases hz : a3 = 0
  · subst hz
    have H2 : Hid (aband a2 0 n = decide (a2 ≤ (n : Int))) := by
      unfold aband
      rw [if_neg (show ¬ a2 < 0 by omega), if_pos rfl]
      rfl
    go_enter Try.func4, Try.ntmps4
    go_wp2_with fail
    refine (new_any n a1 _ hn).mono ?_
    rintro e w1 ⟨B1, ad1, rfl, hB1, c17, c19, hb1⟩
    go_wp2_with fail
    refine (new_any n a2 _ hn).mono ?_
    rintro e w2 ⟨B2, ad2, rfl, hB2, c27, c29, hb2⟩
    have k17 := (hb2.cell (p := ⟨B1, 7, none⟩) (World.block_lt_of_cell? _ _ c17)).trans c17
    have k19 := (hb2.cell (p := ⟨B1, 9, none⟩) (World.block_lt_of_cell? _ _ c19)).trans c19
    clear c17 c19
    have hB := hb1.trans (hb2.mono hb1.size)
    clear hb1 hb2
    go_wp2_with fail
    refine (zzAbandoned_any B1 n ad1 a1 _ _ k17 k19).mono ?_
    rintro e w3 ⟨rfl, rfl⟩
    go_wp2_with fail
    refine (zzAbandoned_any B2 n ad2 a2 _ _ c27 c29).mono ?_
    rintro e w4 ⟨rfl, rfl⟩
    have H1' := H1.out
    rw [H2.out] at H1'
    rw [H2.out]
    generalize aband a1 0 n = x at *
    clear k17 k19 c27 c29
    generalize hy : decide (a2 ≤ (n : Int)) = y at *
    cases x
    · clear H1'
      go_wp2
      all_goals (go_ret; exact ⟨by simp, hB⟩)
    · obtain rfl := H1' rfl
      go_wp2
      all_goals (go_ret; exact ⟨by simp, hB⟩)
  · have hz' : (a3 == 0) = false := beq_eq_false_iff_ne.2 hz
    have H2 : Hid (aband a2 a3 n = decide (a2 < a3)) := by
      unfold aband
      by_cases h : a2 < a3
      · rw [if_pos h]; exact (decide_eq_true h).symm
      · rw [if_neg h, if_neg hz]; exact (decide_eq_false h).symm
    clear hz
    go_enter Try.func4, Try.ntmps4
    go_wp2_with fail
    refine (new_any n a1 _ hn).mono ?_
    rintro e w1 ⟨B1, ad1, rfl, hB1, c17, c19, hb1⟩
    go_wp2_with fail
    refine (new_any n a2 _ hn).mono ?_
    rintro e w2 ⟨B2, ad2, rfl, hB2, c27, c29, hb2⟩
    have k17 := (hb2.cell (p := ⟨B1, 7, none⟩) (World.block_lt_of_cell? _ _ c17)).trans c17
    have k19 := (hb2.cell (p := ⟨B1, 9, none⟩) (World.block_lt_of_cell? _ _ c19)).trans c19
    clear c17 c19
    have hB := hb1.trans (hb2.mono hb1.size)
    clear hb1 hb2
    go_wp2_with fail
    refine (zzAbandoned_any B1 n ad1 a1 _ _ k17 k19).mono ?_
    rintro e w3 ⟨rfl, rfl⟩
    go_wp2_with fail
    refine (zzAbandoned_any B2 n ad2 a2 _ _ c27 c29).mono ?_
    rintro e w4 ⟨rfl, rfl⟩
    have H1' := H1.out
    rw [H2.out] at H1'
    rw [H2.out]
    generalize aband a1 a3 n = x at *
    clear k17 k19 c27 c29
    generalize hy : decide (a2 < a3) = y at *
    cases x
    · clear H1'
      go_wp2
      all_goals (go_ret; exact ⟨by simp, hB⟩)
    · obtain rfl := H1' rfl
      go_wp2
      all_goals (go_ret; exact ⟨by simp, hB⟩)

/-! ### THE ROW's STEP: WRITTEN OUT: LEAVE IT -/
set_option maxRecDepth 100000 in
theorem lifted (os : Os) (started : os.Started) (H : Type) (enc : TypeId × Value → H) :
    ReturnsInHanded {} Try.checked os 4 .any (Rows.fnAbandonedStaysAbandonedSpec.pre6 enc Try.prog Try.f4 Rows.fnAbandonedStaysAbandonedRow.domain false) (Rows.fnAbandonedStaysAbandonedSpec.post enc Try.prog Try.f4 false true false false) := by
  refine returnsInHanded_of_change (C := Try.checked) own started (by kernel_rfl) Try.func4
    (ChangeSpec.witness6 (enc := enc) (C := Try.checked) false ⟨#[], #[.int .i64 0, .int .i64 0, .int .i64 0, .int .i64 0], []⟩ 8 (by kernel_rfl) (by kernel_rfl) (by kernel_rfl) (by kernel_rfl)) ?_
  intro W base args ds gs before hval0 hW hcnd _
  have hval : ∀ (j : Nat) t v, Try.f4.params[j]? = some t → args[j]? = some v → Value.okWide Try.prog W .any base t v := hval0
  have hW' := hW
  obtain ⟨p, q, hA0, hV, rfl, hfz, hnd⟩ := hW
  have hA : DataW.TrodAll enc Try.prog W 0 (fun _ => true) true Try.f4.params.toList args.toList ds p := hA0
  rw [Try.params4] at hA hval
  obtain ⟨v0, vs0, d0, ds0, p0, q0, hargs, rfl, rfl, h0, r0⟩ := trodAll_cons hA
  obtain ⟨v1, vs1, d1, ds1, p1, q1, rfl, rfl, rfl, h1, r1⟩ := trodAll_cons r0
  obtain ⟨v2, vs2, d2, ds2, p2, q2, rfl, rfl, rfl, h2, r2⟩ := trodAll_cons r1
  obtain ⟨v3, vs3, d3, ds3, p3, q3, rfl, rfl, rfl, h3, r3⟩ := trodAll_cons r2
  obtain ⟨rfl, rfl, rfl⟩ := trodAll_nil r3
  obtain rfl : args = #[v0, v1, v2, v3] := by cases args; simp_all
  obtain ⟨rfl, rfl⟩ := trodVars_none hV
  obtain ⟨a0, rfl, rfl, rfl, w0⟩ := open_int Try.underlying3 (hval 0 3 v0 rfl rfl) h0
  obtain ⟨a1, rfl, rfl, rfl, w1⟩ := open_int Try.underlying2 (hval 1 2 v1 rfl rfl) h1
  obtain ⟨a2, rfl, rfl, rfl, w2⟩ := open_int Try.underlying2 (hval 2 2 v2 rfl rfl) h2
  obtain ⟨a3, rfl, rfl, rfl, w3⟩ := open_int Try.underlying2 (hval 3 2 v3 rfl rfl) h3
  clear hA0 hval0
  simp only [List.append_nil] at hW'
  refine (walk a0 a1 a2 a3 w0 w1 w2 w3 W).mono fun e W' ⟨he, hg⟩ => ?_
  subst he
  refine ⟨_, rfl, _, _, _, [], [], [], hW', (trodAll_cons_mk (shut_bool Try.underlying4 _) trodAll_mk0), (trodAll_cons_mk (shut_int Try.underlying3 w0) (trodAll_cons_mk (shut_int Try.underlying2 w1) (trodAll_cons_mk (shut_int Try.underlying2 w2) (trodAll_cons_mk (shut_int Try.underlying2 w3) trodAll_mk0)))), rfl, hg.frame _, fun h => by cases h⟩

theorem over : Rows.fnAbandonedStaysAbandonedRow.holds Try.pinned (OpenSpec.ofChange Rows.fnAbandonedStaysAbandonedSpec) :=
  OpenClaim.holds_of_wide 4 Try.f4 rfl rfl rfl rfl rfl rfl rfl ⟨rfl, rfl, rfl, rfl, rfl⟩ rfl rfl rfl rfl rfl (by kernel_rfl) Try.func4 (by kernel_rfl)
    (of_decide_eq_true (by kernel_rfl)) (by unfold Func.isWrapper; first | (rw [if_pos (by decide +kernel)]; kernel_rfl) | (rw [if_neg (by decide +kernel)]; exact ⟨rfl, rfl⟩))
    (fun os started H enc _ => lifted os started H enc)

/-- ████ THE STATEMENT ████ -/
theorem proved : Rows.FnAbandonedStaysAbandonedSaid :=
  over
end Go.Proofs.Qxb6613223a.fnAbandonedStaysAbandoned
