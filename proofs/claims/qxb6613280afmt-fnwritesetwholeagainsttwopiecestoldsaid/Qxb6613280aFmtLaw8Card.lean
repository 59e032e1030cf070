/-
  'Rows.FnWriteSetWholeAgainstTwoPiecesToldSaid': the walk lifted to the row, and the card (told and tied).
-/
import Derived.Test.Qxb6613280aFmtLaw8All
import Derived.Test.Qxb6613280aFmtCardA
namespace Go.Proofs.Qxb6613280aFmt.wholeAgainstPieces
open Go.ChangeShapes Go.WideShapes Go.ChangeAt Go.RowKit Go.Kit
open Go.ChangeMaps (open_string shut_string)
open Go.Extern.Stop Go.Stop Go.Extern

/-- A slice of int32s among the arguments: a nil one has no room. -/
theorem open_i32s8 {H : Type} {enc : TypeId × Value → H} {W : World} {base : Nat} {v : Value} {d : DataW H} {p : List MemPlace} (hok : Value.okWide Tryf.prog W .any base 22 v) (h : DataW.Trod enc Tryf.prog W 0 (fun _ => true) true 22 v d p) :
    ∃ a xs c, v = .slice a (xs : List Int).length c ∧ Ints a xs W ∧ (∀ x ∈ xs, -2147483648 ≤ x ∧ x ≤ 2147483647) ∧ (a = none → c = 0) := by
  obtain ⟨a, xs, c, rfl, hI, hb⟩ := open_i32s hok h
  refine ⟨a, xs, c, rfl, hI, hb, fun ha => ?_⟩
  subst ha
  obtain ⟨fuel, hd⟩ := h
  rcases open_ints Tryf.underlying22 Tryf.underlying21 cells21 hd with ⟨hcs, _⟩ | ⟨a', len', cap', zs, hcs, _⟩
  · simp [Value.cells] at hcs
    exact hcs.2
  · simp [Value.cells] at hcs

theorem walk (F : Interp) (r c : Int) (tr : Bool) (s : ByteArray) (pos k : Int) (a1 a2 : Option Addr) (c1 c2 : Nat) (xs ys : List Int) (w : World) (hF : F.answers w.tape) (ht : w.cell? ⟨2, 15, none⟩ = some (.int .u8 4))
    (h1 : Ints a1 xs w) (h2 : Ints a2 ys w) (hfx : ∀ x ∈ xs, -2147483648 ≤ x ∧ x ≤ 2147483647) (hfy : ∀ x ∈ ys, -2147483648 ≤ x ∧ x ≤ 2147483647) (z1 : a1 = none → c1 = 0) (z2 : a2 = none → c2 = 0) :
    Calls Tryf.prog 3 #[.int .i64 r, .int .i64 c, .bool tr, .string s, .int .i64 pos, .slice a1 xs.length c1, .slice a2 ys.length c2, .int .i64 k] w fun e w' => e = .returned (.bool true) ∧ Below w.heap.size w w' := by
  by_cases n1 : 65536 < xs.length
  · exact law8_out r c tr s pos k a1 a2 _ _ c1 c2 w (.inl n1)
  by_cases n2 : 65536 < ys.length
  · exact law8_out r c tr s pos k a1 a2 _ _ c1 c2 w (.inr (.inl ⟨n1, n2⟩))
  by_cases n3 : 524288 < s.size
  · exact law8_out r c tr s pos k a1 a2 _ _ c1 c2 w (.inr (.inr (.inl ⟨n1, n2, n3⟩)))
  by_cases n4 : xs.length = ys.length
  · by_cases n5 : r < 0
    · exact law8_out r c tr s pos k a1 a2 _ _ c1 c2 w (.inr (.inr (.inr (.inr (.inl ⟨n1, n2, n3, n4, n5⟩)))))
    by_cases n6 : 100000 < r
    · exact law8_out r c tr s pos k a1 a2 _ _ c1 c2 w (.inr (.inr (.inr (.inr (.inr ⟨n1, n2, n3, n4, n5, n6⟩)))))
    have hs : s = ⟨s.data.toList.toArray⟩ := by cases s; simp
    have hsl : s.size = s.data.toList.length := by rw [Array.length_toList]; rfl
    have hsb : s.data.toList.length ≤ 524288 := by omega
    generalize s.data.toList = l at hs hsb
    subst hs
    rw [← n4]
    exact law8_main F tr r c l pos k a1 a2 c1 c2 xs ys w hF ht hfx hfy h1 h2 z1 z2 n4.symm (by omega) hsb (by omega) (by omega)
  · exact law8_out r c tr s pos k a1 a2 _ _ c1 c2 w (.inr (.inr (.inr (.inl ⟨n1, n2, n3, n4⟩))))

set_option maxRecDepth 100000 in
set_option maxHeartbeats 1000000 in
theorem lifted (os : Os) (started : os.Started) (H : Type) (enc : TypeId × Value → H) :
    ReturnsInTold none {} Tryf.checked os 3 .any Input.okWide ((OpenSpec.ofChange Rows.fnWriteSetWholeAgainstTwoPiecesSpec).preRow enc Tryf.prog Tryf.f3 Rows.fnWriteSetWholeAgainstTwoPiecesRow.domain false Rows.fnWriteSetWholeAgainstTwoPiecesRow.laid)
      (fun F => ((OpenSpec.ofChange Rows.fnWriteSetWholeAgainstTwoPiecesSpec).at F).post enc Tryf.prog Tryf.f3 false true false false) (aloneAtReturn Tryf.prog) nothingAlways := by
  refine returnsInTold_of_row (C := Tryf.checked) (s := OpenSpec.ofChange Rows.fnWriteSetWholeAgainstTwoPiecesSpec) (by kernel_rfl) own started (by kernel_rfl) Tryf.func3
    (OpenSpec.witness_stopped_at (enc := enc) (C := Tryf.checked) false _ #[.int .i64 0, .int .i64 0, .bool false, .string ⟨#[]⟩, .int .i64 0, .slice none 0 0, .slice none 0 0, .int .i64 0] rfl (by kernel_rfl) (by kernel_rfl) (by kernel_rfl)
      (OpenSpec.preRow_of_B rfl 8 (by kernel_rfl) (by kernel_rfl) (laid_met os _))) ?_
  intro F W base args ds gs before _ hF hval0 hW _ _ _ hL0 _
  have hL : laidMet Tryf.prog Rows.fnWriteSetAcceptsUntilABudgetPassesRow.laid W := hL0
  have hval : ∀ (j : Nat) t v, Tryf.f3.params[j]? = some t → args[j]? = some v → Value.okWide Tryf.prog W .any base t v := hval0
  have hW' := hW
  obtain ⟨p, q, hA0, hV, rfl, hfz, hnd⟩ := hW
  have hA : DataW.TrodAll enc Tryf.prog W 0 (fun _ => true) true Tryf.f3.params.toList args.toList ds p := hA0
  rw [Tryf.params3] at hA hval
  obtain ⟨v0, vs0, d0, ds0, p0, q0, hargs, rfl, rfl, h0, r0⟩ := trodAll_cons hA
  obtain ⟨v1, vs1, d1, ds1, p1, q1, rfl, rfl, rfl, h1, r1⟩ := trodAll_cons r0
  obtain ⟨v2, vs2, d2, ds2, p2, q2, rfl, rfl, rfl, h2, r2⟩ := trodAll_cons r1
  obtain ⟨v3, vs3, d3, ds3, p3, q3, rfl, rfl, rfl, h3, r3⟩ := trodAll_cons r2
  obtain ⟨v4, vs4, d4, ds4, p4, q4, rfl, rfl, rfl, h4, r4⟩ := trodAll_cons r3
  obtain ⟨v5, vs5, d5, ds5, p5, q5, rfl, rfl, rfl, h5, r5⟩ := trodAll_cons r4
  obtain ⟨v6, vs6, d6, ds6, p6, q6, rfl, rfl, rfl, h6, r6⟩ := trodAll_cons r5
  obtain ⟨v7, vs7, d7, ds7, p7, q7, rfl, rfl, rfl, h7, r7⟩ := trodAll_cons r6
  obtain ⟨rfl, rfl, rfl⟩ := trodAll_nil r7
  obtain rfl : args = #[v0, v1, v2, v3, v4, v5, v6, v7] := by cases args; simp_all
  obtain ⟨rfl, rfl⟩ := trodVars_none hV
  have hlt5 : ∀ x ∈ p5, x.block < W.heap.size := fun x hx => by simpa using hW'.lt x (by simp [hx])
  have hlt6 : ∀ x ∈ p6, x.block < W.heap.size := fun x hx => by simpa using hW'.lt x (by simp [hx])
  obtain ⟨r, rfl, rfl, rfl, wr⟩ := open_int Tryf.underlying3 (hval 0 3 v0 rfl rfl) h0
  obtain ⟨c, rfl, rfl, rfl, wc⟩ := open_int Tryf.underlying2 (hval 1 2 v1 rfl rfl) h1
  obtain ⟨tr, rfl, rfl, rfl⟩ := open_bool Tryf.underlying4 (hval 2 4 v2 rfl rfl) h2
  obtain ⟨s, rfl, rfl, rfl, ws⟩ := open_string Tryf.underlying9 (hval 3 9 v3 rfl rfl) h3
  obtain ⟨pos, rfl, rfl, rfl, wp⟩ := open_int Tryf.underlying3 (hval 4 3 v4 rfl rfl) h4
  obtain ⟨a5, xs, c5, rfl, I5, b5, z5⟩ := open_i32s8 (hval 5 22 v5 rfl rfl) h5
  obtain ⟨a6, ys, c6, rfl, I6, b6, z6⟩ := open_i32s8 (hval 6 22 v6 rfl rfl) h6
  obtain ⟨k, rfl, rfl, rfl, wk⟩ := open_int Tryf.underlying3 (hval 7 3 v7 rfl rfl) h7
  clear hA0 hval0
  refine (walk F.told r c tr s pos k a5 a6 c5 c6 xs ys W hF (tab15 hL) I5 I6 b5 b6 z5 z6).mono fun e W' ⟨he, hbel⟩ => ?_
  subst he
  refine ⟨_, rfl, _, _, _, [], [] ++ ([] ++ ([] ++ ([] ++ ([] ++ (p5 ++ (p6 ++ ([] ++ []))))))), [], hW', ?_, ?_, rfl, hbel.frame _, fun h => by cases h⟩
  · exact trodAll_cons_mk (shut_bool Tryf.underlying4 _) trodAll_mk0
  · exact trodAll_cons_mk (shut_int Tryf.underlying3 wr) (trodAll_cons_mk (shut_int Tryf.underlying2 wc) (trodAll_cons_mk (shut_bool Tryf.underlying4 _) (trodAll_cons_mk (shut_string Tryf.underlying9 ws) (trodAll_cons_mk (shut_int Tryf.underlying3 wp) (trodAll_cons_mk (Below.trod laidOut' (by kernel_rfl) (of_decide_eq_true (by kernel_rfl)) h5 hbel hlt5) (trodAll_cons_mk (Below.trod laidOut' (by kernel_rfl) (of_decide_eq_true (by kernel_rfl)) h6 hbel hlt6) (trodAll_cons_mk (shut_int Tryf.underlying3 wk) trodAll_mk0)))))))

theorem proved : Rows.FnWriteSetWholeAgainstTwoPiecesToldSaid :=
  Claim7.holds_of_told_tied_any_at .later 3 Tryf.f3 _ _ [] _ _ _ _ _ (by kernel_rfl) rfl rfl rfl laidOut (by kernel_rfl) rfl ⟨rfl, rfl, rfl, rfl, rfl, rfl, rfl⟩ rfl rfl (by kernel_rfl) (by kernel_rfl) Tryf.func3 (by kernel_rfl)
    (of_decide_eq_true (by kernel_rfl)) (by unfold Func.isWrapper; first | (rw [if_pos (by decide +kernel)]; kernel_rfl) | (rw [if_neg (by decide +kernel)]; exact ⟨rfl, rfl⟩)) stopsB rfl stopKnobs.symm (by kernel_rfl)
    (by kernel_rfl) (by kernel_rfl) (by kernel_rfl) (by kernel_rfl) (by kernel_rfl) (by kernel_rfl) (by kernel_rfl) (by kernel_rfl) (by kernel_rfl) rfl (by kernel_rfl) rfl rfl
    rfl rfl
    rfl (by kernel_rfl) (by kernel_rfl) (by kernel_rfl) (by decide) (by kernel_rfl) fnWriteSetWholeAgainstTwoPieces_row_tie
    (OpenClaim.moreEntering_of (by kernel_rfl) (by kernel_rfl) (by kernel_rfl) (by kernel_rfl) (by kernel_rfl) (by kernel_rfl) (by kernel_rfl) (by kernel_rfl) (by kernel_rfl) (by kernel_rfl))
    ⟨_, WideRow.started_initial, quiet _⟩
    (fun os started _ H enc _ => lifted os started H enc)

end Go.Proofs.Qxb6613280aFmt.wholeAgainstPieces
