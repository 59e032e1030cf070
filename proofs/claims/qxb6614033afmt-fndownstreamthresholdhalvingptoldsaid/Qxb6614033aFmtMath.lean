/-
  math.Abs, IsInf, IsNaN, normalize, Frexp, Ldexp at words above 0 and below infinity; binaryFraction; zzSplit: by contracts.
-/
import Derived.Test.Qxb6614033aFmtIeee2
import Derived.Test.Qxb6614033aFmtBits
import Derived.WalkLawsBesides
import Derived.Laws.FloatArith
namespace Go.Proofs.Qxb6614033aFmt
open Go.RowKit

theorem Tryf.bits36 (b : Nat) (w : World) : (callFunc 36 #[.float .f64 b]).run Tryf.prog w = .ok (.value (.int .u64 b)) w := by kernel_rfl
theorem Tryf.frombits37 (b : Nat) (w : World) : (callFunc 37 #[.int .u64 b]).run Tryf.prog w = .ok (.value (.float .f64 b)) w := by kernel_rfl

theorem andNot_sign (b : Nat) (h : b < 9223372036854775808) : bits BinOp.andNot IntKind.u64 (b : Int) 9223372036854775808 = b := by
  rw [u64_andNot _ _ (by omega) (by omega) (by omega) (by omega), Int.toNat_natCast]
  have : b &&& (18446744073709551615 - (9223372036854775808 : Int).toNat) = b % 2 ^ 63 := Nat.and_two_pow_sub_one_eq_mod b 63
  rw [this]; omega

theorem ord (x y : Nat) (hx : x < 9218868437227405312) (hy : y < 9218868437227405312) : FloatKind.f64.format.order x y = some (compare x y) := order_pos x y hx hy
theorem ord_lt (x y : Nat) (hx : x < 9218868437227405312) (hy : y < 9218868437227405312) (h : x < y) : FloatKind.f64.format.order x y = some .lt := by rw [ord x y hx hy, Nat.compare_eq_lt.2 h]
theorem ord_eq (x : Nat) (hx : x < 9218868437227405312) : FloatKind.f64.format.order x x = some .eq := by rw [ord x x hx hx, Nat.compare_eq_eq.2 rfl]
theorem ord_gt (x y : Nat) (hx : x < 9218868437227405312) (hy : y < 9218868437227405312) (h : y < x) : FloatKind.f64.format.order x y = some .gt := by rw [ord x y hx hy, Nat.compare_eq_gt.2 h]

set_option maxHeartbeats 400000 in
theorem abs_any (b : Nat) (h : b < 9223372036854775808) (w : World) :
    Calls Tryf.prog 40 #[.float .f64 b] w fun e w' => e = .returned (.float .f64 b) ∧ w' = w := by
  have hb := andNot_sign b h
  have h36 := Tryf.bits36
  have h37 := Tryf.frombits37
  go_enter Tryf.func40, Tryf.ntmps40
  go_wp2
  go_ret
  exact ⟨rfl, rfl⟩

set_option maxHeartbeats 400000 in
theorem isNaN_any (b : Nat) (h : b < 9218868437227405312) (w : World) :
    Calls Tryf.prog 34 #[.float .f64 b] w fun e w' => e = .returned (.bool false) ∧ w' = w := by
  have hb := ord_eq b h
  go_enter Tryf.func34, Tryf.ntmps34
  go_wp2
  go_ret
  exact ⟨rfl, rfl⟩

set_option maxHeartbeats 400000 in
theorem isInf_any (b : Nat) (h : b < 9218868437227405312) (w : World) :
    Calls Tryf.prog 33 #[.float .f64 b, .int .i64 0] w fun e w' => e = .returned (.bool false) ∧ w' = w := by
  have hb : (FloatKind.f64.format.order b 9218868437227405311 == some .gt) = false := by
    rw [ord b _ h (by omega)]
    rcases Nat.lt_trichotomy b 9218868437227405311 with k | k | k
    · rw [Nat.compare_eq_lt.2 k]; rfl
    · rw [Nat.compare_eq_eq.2 k]; rfl
    · omega
  go_enter Tryf.func33, Tryf.ntmps33
  go_wp2_with (go_at_call 40; refine (abs_any _ (by omega) _).mono ?_; rintro e w' ⟨rfl, rfl⟩)
  go_ret
  exact ⟨rfl, rfl⟩

set_option maxHeartbeats 400000 in
theorem normalize_high (b : Nat) (h0 : 4503599627370496 ≤ b) (h : b < 9218868437227405312) (w : World) :
    Calls Tryf.prog 35 #[.float .f64 b] w fun e w' => e = .returned (.tuple #[.float .f64 b, .int .i64 0]) ∧ w' = w := by
  have hb : (FloatKind.f64.format.order b 4503599627370496 == some .lt) = false := by
    rw [ord b _ h (by omega)]
    rcases Nat.lt_trichotomy b 4503599627370496 with k | k | k
    · omega
    · rw [Nat.compare_eq_eq.2 k]; rfl
    · rw [Nat.compare_eq_gt.2 k]; rfl
  go_enter Tryf.func35, Tryf.ntmps35
  go_wp2_with (go_at_call 40; refine (abs_any _ (by omega) _).mono ?_; rintro e w' ⟨rfl, rfl⟩)
  go_ret2
  exact ⟨rfl, rfl⟩

set_option maxHeartbeats 400000 in
theorem normalize_low (b : Nat) (h0 : 0 < b) (h : b < 4503599627370496) (w : World) :
    Calls Tryf.prog 35 #[.float .f64 b] w fun e w' => e = .returned (.tuple #[.float .f64 (b.log2 * 4503599627370496 + nm b), .int .i64 (-52)]) ∧ w' = w := by
  have hb : (FloatKind.f64.format.order b 4503599627370496 == some .lt) = true := by
    rw [ord_lt b _ (by omega) (by omega) h]; rfl
  have hm : ∀ (t : TypeId) (w : World), (binOp .mul t (.float .f64 b) (.float .f64 4841369599423283200)).run Tryf.prog w = .ok (.float .f64 (b.log2 * 4503599627370496 + nm b)) w := fun t w => run_float_arith w .mul t .f64 _ _ _ (mul_p52 b h0 h)
  go_enter Tryf.func35, Tryf.ntmps35
  go_wp2_with (go_at_call 40; refine (abs_any _ (by omega) _).mono ?_; rintro e w' ⟨rfl, rfl⟩)
  go_ret2
  exact ⟨rfl, rfl⟩
end Go.Proofs.Qxb6614033aFmt
