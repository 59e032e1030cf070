/-
  (fraction).exponent and the three round functions, by contracts.
-/
import Derived.Test.Qxb6614033aFmtBits
import Derived.Test.Qxb6614033aFmtLen
namespace Go.Proofs.Qxb6614033aFmt
open Go.RowKit

theorem bitLen_lib (n : Nat) : n < 2 ^ 64 → Lib.bitLen n = bitLen n := by
  induction n using Nat.strongRecOn with
  | _ n ih =>
    intro h
    by_cases h0 : n = 0
    · subst h0; decide
    · rw [Lib.bitLen_half n h0 h, ih (n / 2) (by omega) (by omega)]
      by_cases h1 : n = 1
      · subst h1; decide
      · have := bitLen_shift n 1 (by simp; omega)
        simpa using this.symm

theorem len64_any (x : Int) (w : World) (h0 : 0 ≤ x) (h1 : x < 18446744073709551616) :
    Calls Tryf.prog 26 #[.int .u64 x] w fun e w' => e = .returned (.int .i64 (blen x)) ∧ w' = w := by
  refine (len64_lib x w h0 (by omega)).mono ?_
  rintro e w' ⟨rfl, rfl⟩
  exact ⟨ret_int (by unfold blen; rw [bitLen_lib _ (by have : (2 : Nat) ^ 64 = 18446744073709551616 := by decide
                                                       omega)]), rfl⟩

set_option maxHeartbeats 1000000 in
theorem exponent_any (hi lo s : Int) (h0 : 0 ≤ hi) (h1 : hi < 18446744073709551616) (l0 : 0 ≤ lo) (l1 : lo < 18446744073709551616) (s0 : 0 ≤ s) (s1 : s ≤ 5000) (w : World) :
    Calls Tryf.prog 20 #[.agg #[.int .u64 hi, .int .u64 lo, .int .u64 s]] w fun e w' => e = .returned (.int .i64 (blen (hi * 18446744073709551616 + lo) - s)) ∧ w' = w.alloc (.cells #[.int .u64 hi, .int .u64 lo, .int .u64 s] 44) := by
  have hbl := blen_le lo 64 l0 (by simpa using l1)
  have hbh := blen_le hi 64 h0 (by simpa using h1)
  by_cases hz : hi = 0
  · subst hz
    go_enter Tryf.func20, Tryf.ntmps20
    go_wp2_with (go_at_call 26; refine (len64_any _ _ (by assumption) (by assumption)).mono ?_; rintro e w' ⟨rfl, rfl⟩)
    go_ret
    exact ⟨ret_int (by simp), rfl⟩
  · have hne : (hi != 0) = true := by rw [bne_iff_ne]; exact hz
    have HS : Hid (blen (hi * 18446744073709551616 + lo) = 64 + blen hi) := by
      have := blen_shift (hi * 18446744073709551616 + lo) 64 (by omega) (by omega)
      rw [show (hi * 18446744073709551616 + lo) / 2 ^ 64 = hi from by omega] at this
      exact this
    clear hz
    go_enter Tryf.func20, Tryf.ntmps20
    go_wp2_with (go_at_call 26; refine (len64_any _ _ (by assumption) (by assumption)).mono ?_; rintro e w' ⟨rfl, rfl⟩)
    go_ret
    exact ⟨ret_int (by rw [HS.out]), rfl⟩

theorem roundHi_any (hi lo s : Int) (w : World) :
    Calls Tryf.prog 13 #[.agg #[.int .u64 hi, .int .u64 lo, .int .u64 s]] w fun e w' => e = .returned (.int .u64 hi) ∧ w' = w.alloc (.cells #[.int .u64 hi, .int .u64 lo, .int .u64 s] 44) := by
  go_enter Tryf.func13, Tryf.ntmps13
  go_wp2
  go_ret
  exact ⟨rfl, rfl⟩
theorem roundLo_any (hi lo s : Int) (w : World) :
    Calls Tryf.prog 14 #[.agg #[.int .u64 hi, .int .u64 lo, .int .u64 s]] w fun e w' => e = .returned (.int .u64 lo) ∧ w' = w.alloc (.cells #[.int .u64 hi, .int .u64 lo, .int .u64 s] 44) := by
  go_enter Tryf.func14, Tryf.ntmps14
  go_wp2
  go_ret
  exact ⟨rfl, rfl⟩
theorem roundS_any (hi lo s : Int) (w : World) :
    Calls Tryf.prog 15 #[.agg #[.int .u64 hi, .int .u64 lo, .int .u64 s]] w fun e w' => e = .returned (.int .u64 s) ∧ w' = w.alloc (.cells #[.int .u64 hi, .int .u64 lo, .int .u64 s] 44) := by
  go_enter Tryf.func15, Tryf.ntmps15
  go_wp2
  go_ret
  exact ⟨rfl, rfl⟩
end Go.Proofs.Qxb6614033aFmt
