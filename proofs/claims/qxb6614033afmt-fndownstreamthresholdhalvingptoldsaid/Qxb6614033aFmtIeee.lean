/-
  Plain facts on float64 words that are not negative: what they stand for, their order, and that a number that the format has is written exactly. No Go in sight.
-/
import Ieee.Arith
namespace Go.Proofs.Qxb6614033aFmt
open Ieee

/-- The significand of a finite word that is not negative. -/
def mant (b : Nat) : Nat := if b < 4503599627370496 then b else 4503599627370496 + b % 4503599627370496
/-- The place of its last digit, counted from -1074. -/
def plc (b : Nat) : Nat := b / 4503599627370496 - 1

theorem dbl_sw : Format.signWeight double = 9223372036854775808 := by decide
theorem dbl_bin : Format.binade double = 4503599627370496 := by decide
theorem dbl_inf : Format.infRung double = 9218868437227405312 := by decide
theorem dbl_lp : Format.leastPlace double = -1074 := by decide
theorem dbl_fb : double.fractionBits = 52 := rfl

theorem read_pos (b : Nat) (h : b < 9218868437227405312) : double.read b = .number false (mant b) (-1074 + (plc b : Int)) := by
  have h1 : (b / 9223372036854775808 % 2 == 1) = false := by
    rw [Nat.div_eq_of_lt (by omega)]; rfl
  have h2 : b % 9223372036854775808 = b := Nat.mod_eq_of_lt (by omega)
  unfold Format.read
  simp only [dbl_sw, dbl_bin, dbl_inf, dbl_lp, h1, h2]
  unfold mant plc
  by_cases hb : b < 4503599627370496
  · rw [if_pos hb, if_pos hb, Nat.div_eq_of_lt hb]; rfl
  · rw [if_neg hb, if_pos h, if_neg hb]

theorem mant_pos (b : Nat) (h : 0 < b) : 0 < mant b := by unfold mant; split <;> omega

theorem log2_eq {n k : Nat} (h1 : 2 ^ k ≤ n) (h2 : n < 2 ^ (k + 1)) : n.log2 = k :=
  (Nat.log2_eq_iff (by have := Nat.two_pow_pos k; omega)).2 ⟨h1, h2⟩

theorem log2_shift (m d : Nat) (h : 0 < m) : (m * 2 ^ d).log2 = m.log2 + d := by
  have h1 := Nat.log2_self_le (show m ≠ 0 by omega)
  have h2 : m < 2 ^ (m.log2 + 1) := Nat.lt_log2_self
  have hp := Nat.two_pow_pos d
  refine log2_eq ?_ ?_
  · rw [Nat.pow_add]; exact Nat.mul_le_mul_right _ h1
  · rw [show m.log2 + d + 1 = (m.log2 + 1) + d from by omega, Nat.pow_add]; exact Nat.mul_lt_mul_of_pos_right h2 hp

theorem cut_exact (neg : Bool) (q d : Nat) (h : 0 < q) : Toward.even.cut neg (q * 2 ^ d) d = q := by
  have hp := Nat.two_pow_pos d
  have hl : d ≤ (q * 2 ^ d).log2 + 2 := by rw [log2_shift q d h]; omega
  unfold Toward.cut
  simp only [Nat.min_eq_left hl, Nat.one_shiftLeft, Nat.mul_div_cancel _ hp, Nat.mul_mod_left, Nat.mul_zero]
  have e2 : (2 ^ d == 0) = false := beq_eq_false_iff_ne.2 (by omega)
  simp [e2]

/-- A number that the format has is written exactly. -/
theorem nearest_exact (r mag d : Nat) (place : Int) (h0 : 0 < r) (hr : r < 9218868437227405312) (hp : place + d = -1074 + (plc r : Int)) (hm : mag = mant r * 2 ^ d) :
    double.nearest false mag place = r := by
  have mp := mant_pos r h0
  have hl : mag.log2 = (mant r).log2 + d := by rw [hm, log2_shift _ _ mp]
  have hpos : mag ≠ 0 := by
    have := Nat.two_pow_pos d
    have := Nat.mul_pos mp this
    omega
  unfold Format.nearest
  rw [if_neg hpos]
  simp only [dbl_lp, dbl_fb, dbl_bin, dbl_inf]
  have hlast : max (place + (mag.log2 : Nat) - ((52 : Nat) : Int)) (-1074) = -1074 + (plc r : Int) := by
    rw [hl]
    by_cases hb : r < 4503599627370496
    · have e1 : plc r = 0 := by unfold plc; rw [Nat.div_eq_of_lt hb]
      have e2 : (mant r).log2 < 52 := by
        refine (Nat.log2_lt (by omega)).2 ?_
        unfold mant; rw [if_pos hb]; exact hb
      rw [e1] at hp ⊢
      omega
    · have e2 : (mant r).log2 = 52 := by
        refine log2_eq ?_ ?_ <;> · unfold mant; rw [if_neg hb]; omega
      rw [e2]
      omega
  rw [hlast]
  have s1 : (place - (-1074 + (plc r : Int))).toNat = 0 := by omega
  have s2 : (-1074 + (plc r : Int) - place).toNat = d := by omega
  rw [s1, s2, Nat.shiftLeft_zero, hm, cut_exact _ _ _ mp]
  have s3 : (-1074 + (plc r : Int) - -1074).toNat = plc r := by omega
  rw [s3]
  have s4 : plc r * 4503599627370496 + mant r = r := by
    by_cases hb : r < 4503599627370496
    · have e1 : plc r = 0 := by unfold plc; rw [Nat.div_eq_of_lt hb]
      have e2 : mant r = r := by unfold mant; rw [if_pos hb]
      rw [e1, e2, Nat.zero_mul, Nat.zero_add]
    · unfold plc mant
      rw [if_neg hb]; omega
  rw [s4, Nat.min_eq_left (by omega)]
  rfl

/-- What a word stands for, in units of 2^-1074. -/
def val (b : Nat) : Nat := mant b * 2 ^ plc b

theorem val_lt (x y : Nat) (h : x < y) : val x < val y := by
  unfold val
  by_cases hx : x < 4503599627370496
  · have e1 : plc x = 0 := by unfold plc; rw [Nat.div_eq_of_lt hx]
    have e2 : mant x = x := by unfold mant; rw [if_pos hx]
    rw [e1, e2]
    by_cases hy : y < 4503599627370496
    · have e3 : plc y = 0 := by unfold plc; rw [Nat.div_eq_of_lt hy]
      have e4 : mant y = y := by unfold mant; rw [if_pos hy]
      rw [e3, e4]; omega
    · have e4 : 4503599627370496 ≤ mant y := by unfold mant; rw [if_neg hy]; omega
      have hp := Nat.two_pow_pos (plc y)
      have : mant y * 1 ≤ mant y * 2 ^ plc y := Nat.mul_le_mul_left _ hp
      omega
  · have hy : ¬ y < 4503599627370496 := by omega
    have e2 : mant x = 4503599627370496 + x % 4503599627370496 := by unfold mant; rw [if_neg hx]
    have e4 : mant y = 4503599627370496 + y % 4503599627370496 := by unfold mant; rw [if_neg hy]
    by_cases he : x / 4503599627370496 = y / 4503599627370496
    · have e5 : plc x = plc y := by unfold plc; rw [he]
      rw [e5]
      exact Nat.mul_lt_mul_of_pos_right (by omega) (Nat.two_pow_pos _)
    · obtain ⟨k, hk⟩ : ∃ k, plc y = plc x + 1 + k := ⟨plc y - plc x - 1, by unfold plc; omega⟩
      have hp := Nat.two_pow_pos (plc x)
      have h1 : mant x * 2 ^ plc x < 9007199254740992 * 2 ^ plc x := Nat.mul_lt_mul_of_pos_right (by omega) hp
      have h2 : 9007199254740992 * 2 ^ plc x = 4503599627370496 * 2 ^ (plc x + 1) := by rw [Nat.pow_succ]; omega
      have h3 : 4503599627370496 * 2 ^ (plc x + 1) ≤ 4503599627370496 * 2 ^ plc y := Nat.mul_le_mul_left _ (Nat.pow_le_pow_right (by omega) (by omega))
      have h4 : 4503599627370496 * 2 ^ plc y ≤ mant y * 2 ^ plc y := Nat.mul_le_mul_right _ (by omega)
      omega

theorem scaled (b base : Nat) (h : base ≤ plc b) : val b = (mant b * 2 ^ (plc b - base)) * 2 ^ base := by
  unfold val
  rw [Nat.mul_assoc, ← Nat.pow_add, Nat.sub_add_cancel h]

theorem order_pos (x y : Nat) (hx : x < 9218868437227405312) (hy : y < 9218868437227405312) : double.order x y = some (compare x y) := by
  unfold Format.order
  rw [read_pos x hx, read_pos y hy]
  simp only [Datum.order, signed, Bool.false_eq_true, if_false, Nat.shiftLeft_eq]
  congr 1
  obtain ⟨base, hb⟩ : ∃ base : Nat, base = min (plc x) (plc y) := ⟨_, rfl⟩
  have e : min (-1074 + (plc x : Int)) (-1074 + (plc y : Int)) = -1074 + (base : Int) := by omega
  rw [e]
  have e1 : (-1074 + (plc x : Int) - (-1074 + (base : Int))).toNat = plc x - base := by omega
  have e2 : (-1074 + (plc y : Int) - (-1074 + (base : Int))).toNat = plc y - base := by omega
  rw [e1, e2]
  have sx := scaled x base (by omega)
  have sy := scaled y base (by omega)
  generalize mant x * 2 ^ (plc x - base) = a at *
  generalize mant y * 2 ^ (plc y - base) = b at *
  have hp := Nat.two_pow_pos base
  rcases Nat.lt_trichotomy x y with h | h | h
  · have hv := val_lt x y h
    have : a < b := by
      rw [sx, sy] at hv
      exact Nat.lt_of_mul_lt_mul_right hv
    rw [Int.compare_eq_lt.2 (by omega), Nat.compare_eq_lt.2 h]
  · have : a = b := by
      have hv : val x = val y := by rw [h]
      rw [sx, sy] at hv
      exact Nat.eq_of_mul_eq_mul_right hp hv
    rw [Int.compare_eq_eq.2 (by omega), Nat.compare_eq_eq.2 h]
  · have hv := val_lt y x h
    have : b < a := by
      rw [sx, sy] at hv
      exact Nat.lt_of_mul_lt_mul_right hv
    rw [Int.compare_eq_gt.2 (by omega), Nat.compare_eq_gt.2 h]

end Go.Proofs.Qxb6614033aFmt
