/-
  Doubling, scaling, one times, halving; a whole number out of a word; which words lie above 0 and not above 1. No Go in sight.
-/
import Derived.Test.Qxb6614033aFmtIeee
namespace Go.Proofs.Qxb6614033aFmt
open Ieee

theorem mul_exact (x y r d : Nat) (hx : x < 9218868437227405312) (hy : y < 9218868437227405312) (h0 : 0 < r) (hr : r < 9218868437227405312)
    (hp : plc x + plc y + d = plc r + 1074) (hm : mant x * mant y = mant r * 2 ^ d) : double.mul x y = some r := by
  unfold Format.mul
  rw [read_pos x hx, read_pos y hy]
  simp only [Datum.product, Option.map_some, Format.write, Bool.false_xor]
  rw [nearest_exact r _ d _ h0 hr (by omega) hm]

/-- Twice a word below 2^52. -/
def dbl (v : Nat) : Nat := if v < 4503599627370496 then 2 * v else v + 4503599627370496

theorem plc_two : plc 4611686018427387904 = 1023 := by decide
theorem mant_two : mant 4611686018427387904 = 4503599627370496 := by decide
theorem plc_one : plc 4607182418800017408 = 1022 := by decide
theorem mant_one : mant 4607182418800017408 = 4503599627370496 := by decide
theorem plc_p52 : plc 4841369599423283200 = 1074 := by decide
theorem mant_p52 : mant 4841369599423283200 = 4503599627370496 := by decide

theorem mant_low (v : Nat) (h : v < 4503599627370496) : mant v = v ∧ plc v = 0 := by
  unfold mant plc; rw [if_pos h, Nat.div_eq_of_lt h]; exact ⟨rfl, rfl⟩
theorem mant_high (v : Nat) (h : 4503599627370496 ≤ v) : mant v = 4503599627370496 + v % 4503599627370496 ∧ plc v = v / 4503599627370496 - 1 := by
  unfold mant plc; rw [if_neg (by omega)]; exact ⟨rfl, rfl⟩

theorem mul_two (v : Nat) (h0 : 0 < v) (h : v < 4841369599423283200) : double.mul v 4611686018427387904 = some (dbl v) := by
  unfold dbl
  by_cases hv : v < 4503599627370496
  · rw [if_pos hv]
    obtain ⟨m1, p1⟩ := mant_low v hv
    by_cases h2 : 2 * v < 4503599627370496
    · obtain ⟨m2, p2⟩ := mant_low (2 * v) h2
      refine mul_exact v _ (2 * v) 51 (by omega) (by omega) (by omega) (by omega) (by rw [p1, p2, plc_two]) ?_
      rw [m1, m2, mant_two]; omega
    · obtain ⟨m2, p2⟩ := mant_high (2 * v) (by omega)
      have p2' : plc (2 * v) = 0 := by rw [p2]; omega
      refine mul_exact v _ (2 * v) 51 (by omega) (by omega) (by omega) (by omega) (by rw [p1, p2', plc_two]) ?_
      rw [m1, m2, mant_two]; omega
  · rw [if_neg hv]
    obtain ⟨m1, p1⟩ := mant_high v (by omega)
    obtain ⟨m2, p2⟩ := mant_high (v + 4503599627370496) (by omega)
    refine mul_exact v _ _ 52 (by omega) (by omega) (by omega) (by omega) (by rw [p1, p2, plc_two]; omega) ?_
    rw [m1, m2, mant_two]; omega

theorem mul_one' (v : Nat) (h0 : 0 < v) (h : v < 9218868437227405312) : double.mul 4607182418800017408 v = some v := by
  refine mul_exact _ v v 52 (by omega) h h0 h (by rw [plc_one]; omega) ?_
  rw [mant_one]; omega

/-- The significand of 53 digits. -/
def nm (b : Nat) : Nat := if b < 4503599627370496 then b * 2 ^ (52 - b.log2) else 4503599627370496 + b % 4503599627370496
/-- What b stands for is 'nm b / 2 ^ ns b'. -/
def ns (b : Nat) : Nat := if b < 4503599627370496 then 1126 - b.log2 else 1075 - b / 4503599627370496

theorem log_low (b : Nat) (h0 : 0 < b) (h : b < 4503599627370496) : b.log2 ≤ 51 := by
  have := (Nat.log2_lt (show b ≠ 0 by omega)).2 (show b < 2 ^ 52 from h)
  omega

theorem nm_bd (b : Nat) (h0 : 0 < b) : 4503599627370496 ≤ nm b ∧ nm b < 9007199254740992 := by
  unfold nm
  by_cases h : b < 4503599627370496
  · rw [if_pos h]
    have hl := log_low b h0 h
    have h1 := Nat.log2_self_le (show b ≠ 0 by omega)
    have h2 : b < 2 ^ (b.log2 + 1) := Nat.lt_log2_self
    have hp := Nat.two_pow_pos (52 - b.log2)
    have e1 : 2 ^ b.log2 * 2 ^ (52 - b.log2) = 4503599627370496 := by
      rw [← Nat.pow_add, show b.log2 + (52 - b.log2) = 52 from by omega]
    have e2 : 2 ^ (b.log2 + 1) * 2 ^ (52 - b.log2) = 9007199254740992 := by
      rw [← Nat.pow_add, show b.log2 + 1 + (52 - b.log2) = 53 from by omega]
    have a1 := Nat.mul_le_mul_right (2 ^ (52 - b.log2)) h1
    have a2 := Nat.mul_lt_mul_of_pos_right h2 hp
    omega
  · rw [if_neg h]; omega

theorem nm_dbl (v : Nat) (h0 : 0 < v) : nm (dbl v) = nm v := by
  unfold dbl
  by_cases hv : v < 4503599627370496
  · rw [if_pos hv]
    have hl := log_low v h0 hv
    have hs : (2 * v).log2 = v.log2 + 1 := by have := log2_shift v 1 h0; rw [Nat.mul_comm]; exact this
    by_cases h2 : 2 * v < 4503599627370496
    · have hl2 := log_low (2 * v) (by omega) h2
      unfold nm
      rw [if_pos h2, if_pos hv, hs, show 52 - v.log2 = (52 - (v.log2 + 1)) + 1 from by omega, Nat.pow_succ, ← Nat.mul_assoc, Nat.mul_comm 2 v, Nat.mul_assoc v 2, Nat.mul_comm 2, Nat.mul_assoc]
    · have hl2 : v.log2 = 51 := log2_eq (by omega) (by omega)
      unfold nm
      rw [if_neg h2, if_pos hv, hl2]
      omega
  · rw [if_neg hv]
    unfold nm
    rw [if_neg (by omega), if_neg hv]; omega

theorem ns_dbl (v : Nat) (h0 : 0 < v) (h : v < 4841369599423283200) : ns (dbl v) + 1 = ns v := by
  unfold dbl
  by_cases hv : v < 4503599627370496
  · rw [if_pos hv]
    have hl := log_low v h0 hv
    have hs : (2 * v).log2 = v.log2 + 1 := by have := log2_shift v 1 h0; rw [Nat.mul_comm]; exact this
    by_cases h2 : 2 * v < 4503599627370496
    · unfold ns
      rw [if_pos h2, if_pos hv, hs]; omega
    · have hl2 : v.log2 = 51 := log2_eq (by omega) (by omega)
      unfold ns
      rw [if_neg h2, if_pos hv, hl2]
      omega
  · rw [if_neg hv]
    unfold ns
    rw [if_neg (by omega), if_neg hv]; omega

/-- 2^52 times a word below the least normal one. -/
theorem mul_p52 (v : Nat) (h0 : 0 < v) (h : v < 4503599627370496) : double.mul v 4841369599423283200 = some (v.log2 * 4503599627370496 + nm v) := by
  have hl := log_low v h0 h
  obtain ⟨m1, p1⟩ := mant_low v h
  have hb := nm_bd v h0
  have e : nm v = v * 2 ^ (52 - v.log2) := by unfold nm; rw [if_pos h]
  obtain ⟨m2, p2⟩ := mant_high (v.log2 * 4503599627370496 + nm v) (by omega)
  have m2' : mant (v.log2 * 4503599627370496 + nm v) = nm v := by rw [m2]; omega
  have p2' : plc (v.log2 * 4503599627370496 + nm v) = v.log2 := by rw [p2]; omega
  refine mul_exact v _ _ v.log2 (by omega) (by omega) (by omega) (by omega) (by rw [p1, p2', plc_p52]; omega) ?_
  rw [m1, m2', mant_p52, e, Nat.mul_assoc, ← Nat.pow_add, show 52 - v.log2 + v.log2 = 52 from by omega]

/-- A word of [2^52, 2^53) as a whole number. -/
theorem toInt_word (m : Nat) (h : m < 4503599627370496) : (double.read (4841369599423283200 + m)).toInt .zero = some ((4503599627370496 + m : Nat) : Int) := by
  rw [read_pos _ (by omega)]
  obtain ⟨m2, p2⟩ := mant_high (4841369599423283200 + m) (by omega)
  have m2' : mant (4841369599423283200 + m) = 4503599627370496 + m := by rw [m2]; omega
  have p2' : plc (4841369599423283200 + m) = 1074 := by rw [p2]; omega
  rw [m2', p2']
  simp only [Datum.toInt, Datum.integral, Toward.cut, signed, Bool.false_eq_true, if_false]
  have e1 : ((-1074 + ((1074 : Nat) : Int)).toNat) = 0 := by omega
  have e2 : ((-(-1074 + ((1074 : Nat) : Int))).toNat) = 0 := by omega
  rw [e1, e2]
  simp

/-- The words above 0 and not above 1. -/
theorem above_zero (b : Nat) (hb : b < 18446744073709551616) (h1 : (double.order b 0 == some .gt) = true) (h2 : (double.order b 4607182418800017408 == some .lt || double.order b 4607182418800017408 == some .eq) = true) :
    0 < b ∧ b ≤ 4607182418800017408 := by
  by_cases hi : b < 9218868437227405312
  · rw [order_pos b 0 hi (by omega)] at h1
    rw [order_pos b _ hi (by omega)] at h2
    rcases Nat.lt_trichotomy b 0 with k | k | k
    · omega
    · subst k; exact absurd h1 (by decide)
    · refine ⟨k, ?_⟩
      rcases Nat.lt_trichotomy b 4607182418800017408 with j | j | j
      · omega
      · omega
      · rw [Nat.compare_eq_gt.2 j] at h2
        exact absurd h2 (by decide)
  · exfalso
    unfold Format.order at h1 h2
    have e0 : double.read 0 = .number false 0 (-1074) := by decide
    have e1 : double.read 4607182418800017408 = .number false 4503599627370496 (-52) := by decide
    rw [e0] at h1
    rw [e1] at h2
    unfold Format.read at h1 h2
    simp only [dbl_sw, dbl_bin, dbl_inf, dbl_lp] at h1 h2
    by_cases hs : b < 9223372036854775808
    · have e2 : b % 9223372036854775808 = b := Nat.mod_eq_of_lt hs
      rw [e2, if_neg (by omega), if_neg (by omega)] at h1 h2
      have e3 : (b / 9223372036854775808 % 2 == 1) = false := by rw [Nat.div_eq_of_lt hs]; rfl
      rw [e3] at h1 h2
      by_cases he : b = 9218868437227405312
      · rw [if_pos he] at h2
        exact absurd h2 (by decide)
      · rw [if_neg he] at h1
        exact absurd h1 (by simp [Datum.order])
    · have e3 : (b / 9223372036854775808 % 2 == 1) = true := by
        have : b / 9223372036854775808 = 1 := by omega
        rw [this]; rfl
      rw [e3] at h1
      have key : ∀ (m : Nat) (p : Int), (Datum.order (.number true m p) (.number false 0 (-1074)) == some .gt) = false := by
        intro m p
        simp only [Datum.order, signed, if_true, Bool.false_eq_true, if_false, Nat.zero_shiftLeft]
        have : (compare (-((m <<< (p - min p (-1074)).toNat : Nat) : Int)) ((0 : Nat) : Int)) ≠ .gt := by
          intro h
          have h := Int.compare_eq_gt.1 h
          generalize m <<< (p - min p (-1074)).toNat = z at h
          omega
        simpa using this
      split at h1
      · rw [key] at h1; cases h1
      · split at h1
        · rw [key] at h1; cases h1
        · split at h1
          · exact absurd h1 (by decide)
          · exact absurd h1 (by simp [Datum.order])

end Go.Proofs.Qxb6614033aFmt
