/-
  'Rows.FnWriteSetAcceptsUntilABudgetPassesToldSaid': the walk lifted to the row, and the card (told and tied).
-/
import Derived.Test.Qxb6613280aFmtLaw7On
import Derived.Test.Qxb6613280aFmtCardA
namespace Go.Proofs.Qxb6613280aFmt.acceptsUntil
open Go.ChangeShapes Go.WideShapes Go.ChangeAt Go.RowKit Go.Kit
open Go.Extern.Stop Go.Stop Go.Extern

theorem walk (F : Interp) (tr : Bool) (pos : Int) (a1 a2 : Option Addr) (c1 c2 : Nat) (xs ys : List Int) (w : World) (hF : F.answers w.tape) (ht : w.cell? ⟨2, 15, none⟩ = some (.int .u8 4))
    (h1 : Ints a1 xs w) (h2 : Ints a2 ys w) (hfx : ∀ x ∈ xs, -2147483648 ≤ x ∧ x ≤ 2147483647) (hfy : ∀ x ∈ ys, -2147483648 ≤ x ∧ x ≤ 2147483647) :
    Calls Tryf.prog 4 #[.bool tr, .int .i64 pos, .slice a1 xs.length c1, .slice a2 ys.length c2] w fun e w' => e = .returned (.bool true) ∧ Below w.heap.size w w' := by
  by_cases n1 : 65536 < xs.length
  · exact law7_out tr pos a1 a2 xs.length ys.length c1 c2 w (.inl n1)
  by_cases n2 : 65536 < ys.length
  · exact law7_out tr pos a1 a2 xs.length ys.length c1 c2 w (.inr (.inl ⟨n1, n2⟩))
  by_cases n3 : xs.length = ys.length
  · rw [← n3]
    cases tr with
    | false => exact law7_off F pos a1 a2 c1 c2 xs ys w hF h1 h2 n3.symm (by omega)
    | true => exact law7_on F pos a1 a2 c1 c2 xs ys w hF ht hfx hfy h1 h2 n3.symm (by omega)
  · exact law7_out tr pos a1 a2 xs.length ys.length c1 c2 w (.inr (.inr ⟨n1, n2, n3⟩))

set_option maxRecDepth 100000 in
set_option maxHeartbeats 1000000 in
theorem lifted (os : Os) (started : os.Started) (H : Type) (enc : TypeId × Value → H) :
    ReturnsInTold none {} Tryf.checked os 4 .any Input.okWide ((OpenSpec.ofChange Rows.fnWriteSetAcceptsUntilABudgetPassesSpec).preRow enc Tryf.prog Tryf.f4 Rows.fnWriteSetAcceptsUntilABudgetPassesRow.domain false Rows.fnWriteSetAcceptsUntilABudgetPassesRow.laid)
      (fun F => ((OpenSpec.ofChange Rows.fnWriteSetAcceptsUntilABudgetPassesSpec).at F).post enc Tryf.prog Tryf.f4 false true false false) (aloneAtReturn Tryf.prog) nothingAlways := by
  refine returnsInTold_of_row (C := Tryf.checked) (s := OpenSpec.ofChange Rows.fnWriteSetAcceptsUntilABudgetPassesSpec) (by kernel_rfl) own started (by kernel_rfl) Tryf.func4
    (OpenSpec.witness_stopped_at (enc := enc) (C := Tryf.checked) false _ #[.bool false, .int .i64 0, .slice none 0 0, .slice none 0 0] rfl (by kernel_rfl) (by kernel_rfl) (by kernel_rfl)
      (OpenSpec.preRow_of_B rfl 8 (by kernel_rfl) (by kernel_rfl) (laid_met os _))) ?_
  intro F W base args ds gs before _ hF hval0 hW _ _ _ hL0 _
  have hL : laidMet Tryf.prog Rows.fnWriteSetAcceptsUntilABudgetPassesRow.laid W := hL0
  have hval : ∀ (j : Nat) t v, Tryf.f4.params[j]? = some t → args[j]? = some v → Value.okWide Tryf.prog W .any base t v := hval0
  have hW' := hW
  obtain ⟨p, q, hA0, hV, rfl, hfz, hnd⟩ := hW
  have hA : DataW.TrodAll enc Tryf.prog W 0 (fun _ => true) true Tryf.f4.params.toList args.toList ds p := hA0
  rw [Tryf.params4] at hA hval
  obtain ⟨v0, vs0, d0, ds0, p0, q0, hargs, rfl, rfl, h0, r0⟩ := trodAll_cons hA
  obtain ⟨v1, vs1, d1, ds1, p1, q1, rfl, rfl, rfl, h1, r1⟩ := trodAll_cons r0
  obtain ⟨v2, vs2, d2, ds2, p2, q2, rfl, rfl, rfl, h2, r2⟩ := trodAll_cons r1
  obtain ⟨v3, vs3, d3, ds3, p3, q3, rfl, rfl, rfl, h3, r3⟩ := trodAll_cons r2
  obtain ⟨rfl, rfl, rfl⟩ := trodAll_nil r3
  obtain rfl : args = #[v0, v1, v2, v3] := by cases args; simp_all
  obtain ⟨rfl, rfl⟩ := trodVars_none hV
  have hlt2 : ∀ x ∈ p2, x.block < W.heap.size := fun x hx => by simpa using hW'.lt x (by simp [hx])
  have hlt3 : ∀ x ∈ p3, x.block < W.heap.size := fun x hx => by simpa using hW'.lt x (by simp [hx])
  obtain ⟨tr, rfl, rfl, rfl⟩ := open_bool Tryf.underlying4 (hval 0 4 v0 rfl rfl) h0
  obtain ⟨pos, rfl, rfl, rfl, wp⟩ := open_int Tryf.underlying3 (hval 1 3 v1 rfl rfl) h1
  obtain ⟨a2, xs, c2, rfl, I2, b2⟩ := open_i32s (hval 2 22 v2 rfl rfl) h2
  obtain ⟨a3, ys, c3, rfl, I3, b3⟩ := open_i32s (hval 3 22 v3 rfl rfl) h3
  clear hA0 hval0
  refine (walk F.told tr pos a2 a3 c2 c3 xs ys W hF (tab15 hL) I2 I3 b2 b3).mono fun e W' ⟨he, hbel⟩ => ?_
  subst he
  refine ⟨_, rfl, _, _, _, [], [] ++ ([] ++ (p2 ++ (p3 ++ []))), [], hW', ?_, ?_, rfl, hbel.frame _, fun h => by cases h⟩
  · exact trodAll_cons_mk (shut_bool Tryf.underlying4 _) trodAll_mk0
  · exact trodAll_cons_mk (shut_bool Tryf.underlying4 _) (trodAll_cons_mk (shut_int Tryf.underlying3 wp) (trodAll_cons_mk (Below.trod laidOut' (by kernel_rfl) (of_decide_eq_true (by kernel_rfl)) h2 hbel hlt2) (trodAll_cons_mk (Below.trod laidOut' (by kernel_rfl) (of_decide_eq_true (by kernel_rfl)) h3 hbel hlt3) trodAll_mk0)))

theorem proved : Rows.FnWriteSetAcceptsUntilABudgetPassesToldSaid :=
  Claim7.holds_of_told_tied_any_at .later 4 Tryf.f4 _ _ [] _ _ _ _ _ (by kernel_rfl) rfl rfl rfl laidOut (by kernel_rfl) rfl ⟨rfl, rfl, rfl, rfl, rfl, rfl, rfl⟩ rfl rfl (by kernel_rfl) (by kernel_rfl) Tryf.func4 (by kernel_rfl)
    (of_decide_eq_true (by kernel_rfl)) (by unfold Func.isWrapper; first | (rw [if_pos (by decide +kernel)]; kernel_rfl) | (rw [if_neg (by decide +kernel)]; exact ⟨rfl, rfl⟩)) stopsA rfl stopKnobs.symm (by kernel_rfl)
    (by kernel_rfl) (by kernel_rfl) (by kernel_rfl) (by kernel_rfl) (by kernel_rfl) (by kernel_rfl) (by kernel_rfl) (by kernel_rfl) (by kernel_rfl) rfl (by kernel_rfl) rfl rfl
    rfl rfl
    rfl (by kernel_rfl) (by kernel_rfl) (by kernel_rfl) (by decide) (by kernel_rfl) fnWriteSetAcceptsUntilABudgetPasses_row_tie
    (OpenClaim.moreEntering_of (by kernel_rfl) (by kernel_rfl) (by kernel_rfl) (by kernel_rfl) (by kernel_rfl) (by kernel_rfl) (by kernel_rfl) (by kernel_rfl) (by kernel_rfl) (by kernel_rfl))
    ⟨_, WideRow.started_initial, quiet _⟩
    (fun os started _ H enc _ => lifted os started H enc)

end Go.Proofs.Qxb6613280aFmt.acceptsUntil
