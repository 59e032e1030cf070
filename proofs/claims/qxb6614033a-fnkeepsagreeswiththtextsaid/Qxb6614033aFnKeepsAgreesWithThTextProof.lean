/-
  'Rows.FnKeepsAgreesWithThTextSaid' proved: the walk out of the contracts of Qxb6614033aText.lean; the row's step after the seat's shell.
-/
import Derived.Test.Qxb6614033aText
import Derived.WalkKit
import Derived.ProofKit
import Derived.OpenShut
import Derived.ShutString
namespace Go.Proofs.Qxb6614033a.fnKeepsAgreesWithThText
open Go.ChangeShapes Go.WideShapes Go.ChangeAt Go.RowKit
open Go.ChangeMaps (open_string shut_string)
set_option linter.unusedVariables false      -- a walk need not use every 'w<i>' (that an integer argument fits its kind)

theorem own : ownKnob Try.prog.godebug = none := by kernel_rfl

set_option maxHeartbeats 400000 in
theorem keeps_any (t r : Int) (w : World) :
    Calls Try.prog 5 #[.int .u64 t, .int .u64 r] w fun e w' => e = .returned (.bool (decide (t ≤ r))) ∧ w' = w := by
  go_enter Try.func5, Try.ntmps5
  go_wp2
  go_ret
  exact ⟨rfl, rfl⟩

theorem txt_bytes {t : Int} {L : List Int} (h : Txt t L) : ((strOfNums L).data.toList.map fun c => (c.toNat : Int)) = L ∧ (strOfNums L).size ≤ 1000 := by
  obtain ⟨n, _, n14, hl, hj, _⟩ := h
  refine ⟨?_, by rw [strOfNums_size]; omega⟩
  rw [strOfNums_data, List.map_map]
  apply List.ext_getElem?
  intro j
  rw [List.getElem?_map]
  by_cases hjn : j < n
  · rw [hj j hjn]
    have b := D_bd t j
    have c := dig_bd (D t j) b.1 b.2
    generalize dig (D t j) = x at c
    simp only [Option.map_some, Function.comp]
    congr 1
    have : (UInt8.ofNat x.toNat).toNat = x.toNat := UInt8.toNat_ofNat_of_lt' (by show x.toNat < 256; omega)
    rw [this]; omega
  · rw [List.getElem?_eq_none (by omega)]; rfl

/-! ### THE WALK -/
set_option maxHeartbeats 400000 in
theorem walk (a0 : Int) (a1 : Int) (w0 : (Lit.int .u64 a0).wf = true) (w1 : (Lit.int .u64 a1).wf = true) (w : World) :
    Calls Try.prog 4 #[.int .u64 a0, .int .u64 a1] w fun e w' => e = .returned (.bool true) ∧ Below w.heap.size w w' := by
  obtain ⟨l0, u0⟩ := bounds_u64 w0
  obtain ⟨l1, u1⟩ := bounds_u64 w1
  clear w0 w1
  by_cases h0 : 72057594037927935 < a0
  · have hd : decide (72057594037927935 < a0) = true := decide_eq_true h0
    go_enter Try.func4, Try.ntmps4
    go_wp2
    go_ret
    exact ⟨rfl, Below.refl _ _⟩
  have hd0 : decide (72057594037927935 < a0) = false := decide_eq_false h0
  have k0 : a0 ≤ 72057594037927935 := by omega
  clear h0
  by_cases h1 : 72057594037927935 < a1
  · have hd1 : decide (72057594037927935 < a1) = true := decide_eq_true h1
    go_enter Try.func4, Try.ntmps4
    go_wp2
    go_ret
    exact ⟨rfl, Below.refl _ _⟩
  have hd1 : decide (72057594037927935 < a1) = false := decide_eq_false h1
  have k1 : a1 ≤ 72057594037927935 := by omega
  clear h1
  go_enter Try.func4, Try.ntmps4
  go_wp2_with fail
  refine (keeps_any _ _ _).mono ?_
  rintro e w' ⟨rfl, rfl⟩
  go_wp2_with fail
  refine (string_any a0 _ l0 k0).mono ?_
  rintro e w1 ⟨T, rfl, hT, hb1⟩
  go_wp2_with fail
  refine (string_any a1 _ l1 k1).mono ?_
  rintro e w2 ⟨R, rfl, hR, hb2⟩
  go_wp2_with fail
  refine (least_any (strOfNums R) (strOfNums T) _ (txt_bytes hR).2 (txt_bytes hT).2).mono ?_
  rintro e w3 ⟨res, rfl, hv, n, rfl⟩
  rw [(txt_bytes hR).1, (txt_bytes hT).1] at hv
  obtain rfl := verdict_le a0 a1 T R res l0 k0 l1 k1 hT hR hv
  go_wp2
  go_ret
  exact ⟨by simp, (hb1.trans (hb2.mono hb1.size)).trans ⟨rfl, rfl, rfl, Nat.le_refl _, fun _ _ => rfl⟩⟩

/-! ### THE ROW's STEP: WRITTEN OUT: LEAVE IT -/
set_option maxRecDepth 100000 in
theorem lifted (os : Os) (started : os.Started) (H : Type) (enc : TypeId × Value → H) :
    ReturnsInHanded {} Try.checked os 4 .any (Rows.fnKeepsAgreesWithThTextSpec.pre6 enc Try.prog Try.f4 Rows.fnKeepsAgreesWithThTextRow.domain false) (Rows.fnKeepsAgreesWithThTextSpec.post enc Try.prog Try.f4 false true false false) := by
  refine returnsInHanded_of_change (C := Try.checked) own started (by kernel_rfl) Try.func4
    (ChangeSpec.witness6 (enc := enc) (C := Try.checked) false ⟨#[], #[.int .u64 0, .int .u64 0], []⟩ 8 (by kernel_rfl) (by kernel_rfl) (by kernel_rfl) (by kernel_rfl)) ?_
  intro W base args ds gs before hval0 hW hcnd _
  have hval : ∀ (j : Nat) t v, Try.f4.params[j]? = some t → args[j]? = some v → Value.okWide Try.prog W .any base t v := hval0
  have hW' := hW
  obtain ⟨p, q, hA0, hV, rfl, hfz, hnd⟩ := hW
  have hA : DataW.TrodAll enc Try.prog W 0 (fun _ => true) true Try.f4.params.toList args.toList ds p := hA0
  rw [Try.params4] at hA hval
  obtain ⟨v0, vs0, d0, ds0, p0, q0, hargs, rfl, rfl, h0, r0⟩ := trodAll_cons hA
  obtain ⟨v1, vs1, d1, ds1, p1, q1, rfl, rfl, rfl, h1, r1⟩ := trodAll_cons r0
  obtain ⟨rfl, rfl, rfl⟩ := trodAll_nil r1
  obtain rfl : args = #[v0, v1] := by cases args; simp_all
  obtain ⟨rfl, rfl⟩ := trodVars_none hV
  obtain ⟨a0, rfl, rfl, rfl, w0⟩ := open_int Try.underlying22 (hval 0 22 v0 rfl rfl) h0
  obtain ⟨a1, rfl, rfl, rfl, w1⟩ := open_int Try.underlying22 (hval 1 22 v1 rfl rfl) h1
  clear hA0 hval0
  simp only [List.append_nil] at hW'
  refine (walk a0 a1 w0 w1 W).mono fun e W' ⟨he, hg⟩ => ?_
  subst he
  refine ⟨_, rfl, _, _, _, [], [], [], hW', trodAll_cons_mk (shut_bool Try.underlying4 _) trodAll_mk0, trodAll_cons_mk (shut_int Try.underlying22 w0) (trodAll_cons_mk (shut_int Try.underlying22 w1) trodAll_mk0), rfl, hg.frame _, fun h => by cases h⟩

theorem over : Rows.fnKeepsAgreesWithThTextRow.holds Try.pinned (OpenSpec.ofChange Rows.fnKeepsAgreesWithThTextSpec) :=
  OpenClaim.holds_of_wide 4 Try.f4 rfl rfl rfl rfl rfl rfl rfl ⟨rfl, rfl, rfl, rfl, rfl⟩ rfl rfl rfl rfl rfl (by kernel_rfl) Try.func4 (by kernel_rfl)
    (of_decide_eq_true (by kernel_rfl)) (by unfold Func.isWrapper; first | (rw [if_pos (by decide +kernel)]; kernel_rfl) | (rw [if_neg (by decide +kernel)]; exact ⟨rfl, rfl⟩))
    (fun os started H enc _ => lifted os started H enc)

/-- ████ THE STATEMENT ████ -/
theorem proved : Rows.FnKeepsAgreesWithThTextSaid :=
  over
end Go.Proofs.Qxb6614033a.fnKeepsAgreesWithThText
