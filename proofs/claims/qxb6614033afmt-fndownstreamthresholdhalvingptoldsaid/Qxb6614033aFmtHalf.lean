/-
  Half of a word; how 'zzReduce' takes one more halving; the words from 2^-1021 on and below 1. Plain.
-/
import Derived.Test.Qxb6614033aFmtIeee2
import Derived.Test.Qxb6614033aFmtBits
namespace Go.Proofs.Qxb6614033aFmt
open Ieee

theorem div_two (b : Nat) (h0 : 9007199254740992 ≤ b) (h : b < 9218868437227405312) : double.div b 4611686018427387904 = some (b - 4503599627370496) := by
  unfold Format.div
  rw [read_pos b h, read_pos 4611686018427387904 (by omega), plc_two, mant_two]
  obtain ⟨m1, p1⟩ := mant_high b (by omega)
  obtain ⟨m2, p2⟩ := mant_high (b - 4503599627370496) (by omega)
  have e1 : mant b = mant (b - 4503599627370496) := by rw [m1, m2]; omega
  have e2 : plc b = plc (b - 4503599627370496) + 1 := by rw [p1, p2]; omega
  have lm : (mant b).log2 = 52 := log2_eq (by rw [m1]; omega) (by rw [m1]; omega)
  have ln : (4503599627370496 : Nat).log2 = 52 := log2_eq (by omega) (by omega)
  have fb : double.fractionBits + 2 = 54 := rfl
  simp only [Datum.quotient, Bool.false_xor]
  rw [if_neg (by omega), lm, ln, fb]
  have s1 : mant b <<< (54 + 52 - 52) / 4503599627370496 = mant b * 4 := by
    rw [Nat.shiftLeft_eq, show (2 : Nat) ^ (54 + 52 - 52) = 4 * 4503599627370496 from by decide, ← Nat.mul_assoc, Nat.mul_div_cancel _ (by omega)]
  have s2 : mant b <<< (54 + 52 - 52) % 4503599627370496 = 0 := by
    rw [Nat.shiftLeft_eq, show (2 : Nat) ^ (54 + 52 - 52) = 4 * 4503599627370496 from by decide, ← Nat.mul_assoc, Nat.mul_mod_left]
  rw [s1, s2]
  have s3 : ((0 : Nat) != 0).toNat = 0 := rfl
  rw [s3]
  simp only [Option.map_some, Format.write]
  rw [nearest_exact (b - 4503599627370496) _ 3 _ (by omega) (by omega) (by rw [e2]; omega) (by rw [← e1]; omega)]

/-- The words from 2^-1021 on and below 1. -/
theorem half_range (b : Nat) (hb : b < 18446744073709551616) (h1 : (double.order b 9007199254740992 == some .gt || double.order b 9007199254740992 == some .eq) = true) (h2 : (double.order b 4607182418800017408 == some .lt) = true) :
    9007199254740992 ≤ b ∧ b < 4607182418800017408 := by
  by_cases hi : b < 9218868437227405312
  · rw [order_pos b _ hi (by omega)] at h1
    rw [order_pos b _ hi (by omega)] at h2
    constructor
    · rcases Nat.lt_trichotomy b 9007199254740992 with k | k | k
      · rw [Nat.compare_eq_lt.2 k] at h1; exact absurd h1 (by decide)
      · omega
      · omega
    · rcases Nat.lt_trichotomy b 4607182418800017408 with k | k | k
      · exact k
      · rw [Nat.compare_eq_eq.2 k] at h2; exact absurd h2 (by decide)
      · rw [Nat.compare_eq_gt.2 k] at h2; exact absurd h2 (by decide)
  · exfalso
    unfold Format.order at h1 h2
    have e0 : double.read 9007199254740992 = .number false 4503599627370496 (-1073) := by decide
    have e1 : double.read 4607182418800017408 = .number false 4503599627370496 (-52) := by decide
    rw [e0] at h1
    rw [e1] at h2
    unfold Format.read at h1 h2
    simp only [dbl_sw, dbl_bin, dbl_inf, dbl_lp] at h1 h2
    by_cases hs : b < 9223372036854775808
    · have e2 : b % 9223372036854775808 = b := Nat.mod_eq_of_lt hs
      rw [e2, if_neg (by omega), if_neg (by omega)] at h1 h2
      have e3 : (b / 9223372036854775808 % 2 == 1) = false := by rw [Nat.div_eq_of_lt hs]; rfl
      rw [e3] at h1 h2
      by_cases he : b = 9218868437227405312
      · rw [if_pos he] at h2
        exact absurd h2 (by decide)
      · rw [if_neg he] at h1
        exact absurd h1 (by simp [Datum.order])
    · have e3 : (b / 9223372036854775808 % 2 == 1) = true := by
        have : b / 9223372036854775808 = 1 := by omega
        rw [this]; rfl
      rw [e3] at h1
      have key : ∀ (m : Nat) (p : Int), (Datum.order (.number true m p) (.number false 4503599627370496 (-1073)) == some .gt || Datum.order (.number true m p) (.number false 4503599627370496 (-1073)) == some .eq) = false := by
        intro m p
        simp only [Datum.order, signed, if_true, Bool.false_eq_true, if_false]
        have hp : 0 < 4503599627370496 <<< (-1073 - min p (-1073)).toNat := by
          rw [Nat.shiftLeft_eq]
          exact Nat.mul_pos (by omega) (Nat.two_pow_pos _)
        have : (compare (-((m <<< (p - min p (-1073)).toNat : Nat) : Int)) ((4503599627370496 <<< (-1073 - min p (-1073)).toNat : Nat) : Int)) = .lt := by
          generalize m <<< (p - min p (-1073)).toNat = z
          generalize 4503599627370496 <<< (-1073 - min p (-1073)).toNat = y at hp
          exact Int.compare_eq_lt.2 (by omega)
        rw [this]; rfl
      split at h1
      · rw [key] at h1; cases h1
      · split at h1
        · rw [key] at h1; cases h1
        · split at h1
          · exact absurd h1 (by decide)
          · exact absurd h1 (by simp [Datum.order])

theorem nm_half (b : Nat) (h : 9007199254740992 ≤ b) : nm (b - 4503599627370496) = nm b := by
  unfold nm
  rw [if_neg (by omega), if_neg (by omega)]; omega
theorem ns_half (b : Nat) (h : 9007199254740992 ≤ b) (h1 : b < 4607182418800017408) : ns (b - 4503599627370496) = ns b + 1 ∧ 53 ≤ ns b := by
  unfold ns
  rw [if_neg (by omega), if_neg (by omega)]; omega

/-- One halving more is left over where the halvings end ahead of it. -/
theorem red_more (s : Nat) : ∀ (hi lo : Int), 0 ≤ hi → 0 ≤ lo → lo < 18446744073709551616 → 0 < hi * 18446744073709551616 + lo → hi * 18446744073709551616 + lo < 2 ^ s →
    red (s + 1) hi lo = ((red s hi lo).1, (red s hi lo).2.1, (red s hi lo).2.2 + 1) := by
  induction s with
  | zero => intro hi lo _ _ _ h1 h2; simp at h2; omega
  | succ s ih =>
    intro hi lo h0 l0 l1 hp hl
    by_cases hm : lo % 2 = 0
    · have e1 : red (s + 1) hi lo = red s (hi / 2) ((hi * 18446744073709551616 + lo) / 2 % 18446744073709551616) := by rw [red, if_pos hm]
      have e2 : red (s + 1 + 1) hi lo = red (s + 1) (hi / 2) ((hi * 18446744073709551616 + lo) / 2 % 18446744073709551616) := by rw [red, if_pos hm]
      have e : (2 : Int) ^ (s + 1) = 2 * 2 ^ s := by rw [Int.pow_succ]; omega
      rw [e] at hl
      rw [e1, e2]
      generalize hq : (2 : Int) ^ s = q at *
      exact ih (hi / 2) _ (by omega) (by omega) (by omega) (by omega) (by omega)
    · have e1 : red (s + 1) hi lo = (hi, lo, s + 1) := by rw [red, if_neg hm]
      have e2 : red (s + 1 + 1) hi lo = (hi, lo, s + 1 + 1) := by rw [red, if_neg hm]
      rw [e1, e2]

end Go.Proofs.Qxb6614033aFmt
