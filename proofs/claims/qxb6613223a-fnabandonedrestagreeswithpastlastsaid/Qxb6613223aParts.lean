/-
  '(*atomic.Int64).Store', 'Load', '(*sequenceParts).abandoned', 'ZZAbandoned', 'ZZNewSequenceParts', by contracts.
-/
import Derived.Test.Qxb6613223aRows
import Derived.WalkKit
import Derived.ProofKit
import Derived.OpenShut
import Derived.WalkSpells
import Derived.Laws.LoneSync
namespace Go.Proofs.Qxb6613223a
open Go.RowKit

set_option maxHeartbeats 400000 in
theorem store_any (b o : Nat) (v old : Int) (w : World) (hc : w.cell? ⟨b, o, none⟩ = some (.int .i64 old)) (hf : w.frozen? ⟨b, o, none⟩ = false) :
    Calls Try.prog 7 #[.pointer (some ⟨b, o, none⟩), .int .i64 v] w fun e w' => e = .returned (.tuple #[]) ∧ w' = w.setCell ⟨b, o, none⟩ (.int .i64 v) := by
  have hs := run_call_store (P := Try.prog) Try.func9 (by kernel_rfl) (by kernel_rfl) (by kernel_rfl) (by kernel_rfl) (k := .i64) (y := v) hc hf
  go_enter Try.func7, Try.ntmps7
  go_wp2
  go_end0
  exact ⟨rfl, rfl⟩

set_option maxHeartbeats 400000 in
theorem load_any (b o : Nat) (v : Int) (w : World) (hc : w.cell? ⟨b, o, none⟩ = some (.int .i64 v)) :
    Calls Try.prog 10 #[.pointer (some ⟨b, o, none⟩)] w fun e w' => e = .returned (.int .i64 v) ∧ w' = w := by
  have hl := run_call_load (P := Try.prog) Try.func11 (by kernel_rfl) (by kernel_rfl) (by kernel_rfl) .i64 (by kernel_rfl) hc
  go_enter Try.func10, Try.ntmps10
  go_wp2
  go_ret
  exact ⟨rfl, rfl⟩

/-- What 'abandoned' answers. -/
def aband (failed number n : Int) : Bool := if failed < number then true else if number = 0 then decide (failed ≤ n) else false

set_option maxHeartbeats 400000 in
theorem abandoned_any (B n : Nat) (ad : Option Addr) (failed number : Int) (w : World) (h7 : w.cell? ⟨B, 7, none⟩ = some (.slice ad n n)) (h9 : w.cell? ⟨B, 9, none⟩ = some (.int .i64 failed)) :
    Calls Try.prog 8 #[.pointer (some ⟨B, 0, none⟩), .int .i64 number] w fun e w' => e = .returned (.bool (aband failed number n)) ∧ w' = w := by
  unfold aband
  by_cases h1 : failed < number
  · rw [if_pos h1]
    have hd : decide (failed < number) = true := decide_eq_true h1
    go_enter Try.func8, Try.ntmps8
    go_wp2_with (go_at_call 10; refine (load_any _ _ failed _ (by assumption)).mono ?_; rintro e w' ⟨rfl, rfl⟩)
    go_ret
    exact ⟨rfl, rfl⟩
  · rw [if_neg h1]
    have hd : decide (failed < number) = false := decide_eq_false h1
    clear h1
    by_cases h2 : number = 0
    · rw [if_pos h2]
      subst h2
      go_enter Try.func8, Try.ntmps8
      go_wp2_with (go_at_call 10; refine (load_any _ _ failed _ (by assumption)).mono ?_; rintro e w' ⟨rfl, rfl⟩)
      go_ret
      exact ⟨rfl, rfl⟩
    · rw [if_neg h2]
      have he : (number == 0) = false := beq_eq_false_iff_ne.2 h2
      clear h2
      go_enter Try.func8, Try.ntmps8
      go_wp2_with (go_at_call 10; refine (load_any _ _ failed _ (by assumption)).mono ?_; rintro e w' ⟨rfl, rfl⟩)
      go_ret
      exact ⟨rfl, rfl⟩

set_option maxHeartbeats 400000 in
theorem zzAbandoned_any (B n : Nat) (ad : Option Addr) (failed number : Int) (w : World) (h7 : w.cell? ⟨B, 7, none⟩ = some (.slice ad n n)) (h9 : w.cell? ⟨B, 9, none⟩ = some (.int .i64 failed)) :
    Calls Try.prog 6 #[.pointer (some ⟨B, 0, none⟩), .int .i64 number] w fun e w' => e = .returned (.bool (aband failed number n)) ∧ w' = w := by
  go_enter Try.func6, Try.ntmps6
  go_wp2_with fail
  refine (abandoned_any B n ad failed number _ h7 h9).mono ?_
  rintro e w' ⟨rfl, rfl⟩
  go_wp2
  go_ret
  exact ⟨rfl, rfl⟩

theorem Try.info62 : (Try.prog.info? 62).map (fun i => (i.zero, i.size, i.bytes)) = some (some (.agg #[.int .i64 0, .int .i64 0, .int .i64 0, .int .i64 0, .pointer none, .bool false]), 6, 48) := by kernel_rfl

set_option maxHeartbeats 400000 in
theorem new_any (n : Nat) (failed : Int) (w : World) (hn : n ≤ 65536) :
    Calls Try.prog 5 #[.int .i64 n, .int .i64 failed] w fun e w' => ∃ B ad, e = .returned (.pointer (some ⟨B, 0, none⟩)) ∧ w.heap.size ≤ B ∧ w'.cell? ⟨B, 7, none⟩ = some (.slice ad n n) ∧ w'.cell? ⟨B, 9, none⟩ = some (.int .i64 failed) ∧ Below w.heap.size w w' := by
  obtain ⟨i0, hi, hz0, hz1, hz2⟩ := info_parts Try.info62
  go_enter Try.func5, Try.ntmps5
  go_wp2_with (first | (at_make; refine wpList_make_full _ rfl _ _ 27 rfl w.heap.size 62 i0 _ 6 Try.underlying27 hi hz0 hz1 .i64 .i64 _ _ n rfl rfl rfl rfl (by rw [hz2]; omega) (by unfold maxLen; omega) (Nat.le_refl _) ?_; intro w1 hown hg) | fail)
  refine (store_any w1.heap.size 9 failed 0 _ ?_ ?_).mono ?_
  · go_simp
  · go_simp
  rintro e w2 ⟨rfl, rfl⟩
  go_wp2
  go_ret
  refine ⟨w1.heap.size, some ⟨w.heap.size, 0, none⟩, rfl, hg.size, ?_, ?_, ?_⟩
  · go_simp
  · go_simp
  · exact ((Below.refl _ _).grown hg (Nat.le_refl _) (fun k hk => by cases hk)).alloc hg.size _
end Go.Proofs.Qxb6613223a
