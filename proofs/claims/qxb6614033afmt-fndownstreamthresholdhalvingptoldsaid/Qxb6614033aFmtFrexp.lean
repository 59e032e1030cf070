/-
  math.Frexp, math.Ldexp at words above 0 and below infinity; binaryFraction; zzSplit: by contracts.
-/
import Derived.Test.Qxb6614033aFmtMath
namespace Go.Proofs.Qxb6614033aFmt
open Go.RowKit

theorem ret_fi {f : Nat} {a b : Int} (h : a = b) : Ending.returned (.tuple #[.float .f64 f, .int .i64 a]) = .returned (.tuple #[.float .f64 f, .int .i64 b]) := by rw [h]

/-- The word that 'normalize' hands back, and the exponent. -/
def nw (b : Nat) : Nat := if b < 4503599627370496 then b.log2 * 4503599627370496 + nm b else b
def ne (b : Nat) : Int := if b < 4503599627370496 then -52 else 0

theorem normalize_any (b : Nat) (h0 : 0 < b) (h : b < 9218868437227405312) (w : World) :
    Calls Tryf.prog 35 #[.float .f64 b] w fun e w' => e = .returned (.tuple #[.float .f64 (nw b), .int .i64 (ne b)]) ∧ w' = w := by
  unfold nw ne
  by_cases hb : b < 4503599627370496
  · rw [if_pos hb, if_pos hb]; exact normalize_low b h0 hb w
  · rw [if_neg hb, if_neg hb]; exact normalize_high b (by omega) h w

theorem nw_bd (b : Nat) (h0 : 0 < b) (h : b < 9218868437227405312) : 4503599627370496 ≤ nw b ∧ nw b < 9218868437227405312 ∧ nm b = 4503599627370496 + nw b % 4503599627370496 ∧ (ns b : Int) = 1075 - (nw b / 4503599627370496 : Nat) - ne b ∧ (ne b = 0 ∨ ne b = -52) ∨ 4841369599423283200 < b := by
  unfold nw ne
  by_cases hb : b < 4503599627370496
  · have hl := log_low b h0 hb
    have hn := nm_bd b h0
    left
    rw [if_pos hb, if_pos hb]
    refine ⟨by omega, by omega, by omega, ?_, by omega⟩
    unfold ns
    rw [if_pos hb]
    omega
  · by_cases hc : 4841369599423283200 < b
    · exact .inr hc
    · left
      rw [if_neg hb, if_neg hb]
      refine ⟨by omega, by omega, ?_, ?_, by omega⟩
      · unfold nm; rw [if_neg hb]
      · unfold ns; rw [if_neg hb]; omega

theorem and_exp (y : Nat) (h : y < 9218868437227405312) : bits BinOp.and IntKind.u64 ((y : Int) / 4503599627370496) 2047 = ((y / 4503599627370496 : Nat) : Int) := by
  rw [u64_and _ _ (by omega) (by omega) (by omega) (by omega)]
  have : (((y : Int) / 4503599627370496).toNat &&& (2047 : Int).toNat) = ((y : Int) / 4503599627370496).toNat % 2 ^ 11 := Nat.and_two_pow_sub_one_eq_mod _ 11
  rw [this]; omega

theorem andNot_exp (y : Nat) (h : y < 9223372036854775808) : bits BinOp.andNot IntKind.u64 (y : Int) 9218868437227405312 = ((y % 4503599627370496 : Nat) : Int) := by
  rw [u64_andNot _ _ (by omega) (by omega) (by omega) (by omega), Int.toNat_natCast]
  have e : 18446744073709551615 - (9218868437227405312 : Int).toNat = 2 ^ 63 ||| 4503599627370495 := by decide
  have z : y &&& 2 ^ 63 = 0 := by
    apply Nat.eq_of_testBit_eq
    intro i
    rw [Nat.testBit_and, Nat.testBit_two_pow, Nat.zero_testBit]
    by_cases hi : 63 = i
    · subst hi; rw [Nat.testBit_lt_two_pow h]; rfl
    · simp [hi]
  have m : y &&& 4503599627370495 = y % 4503599627370496 := Nat.and_two_pow_sub_one_eq_mod y 52
  rw [e, Nat.and_or_distrib_left, z, m, Nat.zero_or]

theorem or_exp (m k : Nat) (h : m < 4503599627370496) (hk : k < 4096) : bits BinOp.or IntKind.u64 (m : Int) (k * 4503599627370496) = ((k * 4503599627370496 + m : Nat) : Int) := by
  rw [u64_or _ _ (by omega) (by omega) (by omega) (by omega), Nat.or_comm,
    nat_join 52 _ _ (by have : (2 : Nat) ^ 52 = 4503599627370496 := by decide
                        rw [this]; omega) (by have : (2 : Nat) ^ 52 = 4503599627370496 := by decide
                                              rw [this]; omega)]
  omega

set_option maxHeartbeats 1000000 in
theorem frexp_any (b : Nat) (h0 : 0 < b) (h1 : b ≤ 4841369599423283200) (w : World) :
    Calls Tryf.prog 29 #[.float .f64 b] w fun e w' => e = .returned (.tuple #[.float .f64 (4602678819172646912 + (nm b - 4503599627370496)), .int .i64 (53 - (ns b : Int))]) ∧ w' = w := by
  obtain ⟨y0, y1, ym, ys, ye⟩ := (nw_bd b h0 (by omega)).resolve_right (by omega)
  have hz : FloatKind.f64.format.order b 0 = some .gt := ord_gt b 0 (by omega) (by omega) h0
  have h36 := Tryf.bits36
  have h37 := Tryf.frombits37
  have HN : Hid (∀ w, Calls Tryf.prog 35 #[.float .f64 b] w fun e w' => e = .returned (.tuple #[.float .f64 (nw b), .int .i64 (ne b)]) ∧ w' = w) := normalize_any b h0 (by omega)
  generalize nw b = y at *
  generalize ne b = e0 at *
  have ha := and_exp y y1
  have hc := andNot_exp y (by omega)
  have hd := or_exp (y % 4503599627370496) 1022 (by omega) (by omega)
  have e1 : ((1022 : Nat) : Int) * 4503599627370496 = 4602678819172646912 := by decide
  rw [e1] at hd
  have e2 : 4602678819172646912 + (nm b - 4503599627370496) = 1022 * 4503599627370496 + y % 4503599627370496 := by omega
  have HF : Hid (53 - (ns b : Int) = e0 + ((y / 4503599627370496 : Nat) - 1023 + 1)) := by
    have : 53 - (ns b : Int) = e0 + ((y / 4503599627370496 : Nat) - 1023 + 1) := by omega
    exact this
  rw [e2]
  have b1 : (0 : Int) ≤ ((y / 4503599627370496 : Nat) : Int) := by omega
  have b2 : ((y / 4503599627370496 : Nat) : Int) ≤ 2047 := by omega
  have b3 : -52 ≤ e0 := by omega
  have b4 : e0 ≤ 0 := by omega
  clear ym ys e2 e1 ye
  generalize hq : y / 4503599627370496 = q at *
  generalize hr : y % 4503599627370496 = r at *
  generalize hf : 1022 * 4503599627370496 + r = f at *
  clear hq hr hf
  go_enter Tryf.func29, Tryf.ntmps29
  go_wp2_with (first | (go_at_call 33; refine (isInf_any _ (by omega) _).mono ?_; rintro e w' ⟨rfl, rfl⟩) | (go_at_call 34; refine (isNaN_any _ (by omega) _).mono ?_; rintro e w' ⟨rfl, rfl⟩) | (go_at_call 35; refine (HN.out _).mono ?_; rintro e w' ⟨rfl, rfl⟩))
  go_ret2
  exact ⟨ret_fi HF.out.symm, rfl⟩

set_option maxHeartbeats 1000000 in
theorem Frexp_any (b : Nat) (h0 : 0 < b) (h1 : b ≤ 4841369599423283200) (w : World) :
    Calls Tryf.prog 24 #[.float .f64 b] w fun e w' => e = .returned (.tuple #[.float .f64 (4602678819172646912 + (nm b - 4503599627370496)), .int .i64 (53 - (ns b : Int))]) ∧ w' = w := by
  have HN : Hid (∀ w, Calls Tryf.prog 29 #[.float .f64 b] w fun e w' => e = .returned (.tuple #[.float .f64 (4602678819172646912 + (nm b - 4503599627370496)), .int .i64 (53 - (ns b : Int))]) ∧ w' = w) := frexp_any b h0 h1
  generalize 4602678819172646912 + (nm b - 4503599627370496) = f at *
  generalize 53 - (ns b : Int) = e0 at *
  go_enter Tryf.func24, Tryf.ntmps24
  go_wp2_with (go_at_call 29; refine (HN.out _).mono ?_; rintro e w' ⟨rfl, rfl⟩)
  go_ret2
  exact ⟨rfl, rfl⟩

set_option maxHeartbeats 1000000 in
theorem ldexp_any (f r : Nat) (hr : r < 4503599627370496) (hf : f = 4602678819172646912 + r) (w : World) :
    Calls Tryf.prog 31 #[.float .f64 f, .int .i64 53] w fun e w' => e = .returned (.float .f64 (4841369599423283200 + r)) ∧ w' = w := by
  have hz : FloatKind.f64.format.order f 0 = some .gt := ord_gt f 0 (by omega) (by omega) (by omega)
  have h36 := Tryf.bits36
  have h37 := Tryf.frombits37
  have HN : Hid (∀ w, Calls Tryf.prog 35 #[.float .f64 f] w fun e w' => e = .returned (.tuple #[.float .f64 f, .int .i64 0]) ∧ w' = w) := normalize_high f (by omega) (by omega)
  have ha : (f : Int) / 4503599627370496 = 1022 := by omega
  have hb : bits BinOp.and IntKind.i64 1022 2047 = 1022 := by decide
  have hc : bits BinOp.andNot IntKind.u64 (f : Int) 9218868437227405312 = (r : Int) := by
    rw [andNot_exp f (by omega)]; omega
  have hd := or_exp r 1075 hr (by omega)
  have e1 : ((1075 : Nat) : Int) * 4503599627370496 = 4841369599423283200 := by decide
  have e2 : 1075 * 4503599627370496 + r = 4841369599423283200 + r := by omega
  rw [e1, e2] at hd
  have b1 : 4602678819172646912 ≤ f := by omega
  have b2 : f < 4841369599423283200 := by omega
  have hm : ∀ (t : TypeId) (w : World), (binOp .mul t (.float .f64 4607182418800017408) (.float .f64 (4841369599423283200 + r))).run Tryf.prog w = .ok (.float .f64 (4841369599423283200 + r)) w := fun t w => run_float_arith w .mul t .f64 _ _ _ (mul_one' _ (by omega) (by omega))
  generalize 4841369599423283200 + r = g at *
  clear e1 e2 hf
  go_enter Tryf.func31, Tryf.ntmps31
  go_wp2_with (first | (go_at_call 33; refine (isInf_any _ (by omega) _).mono ?_; rintro e w' ⟨rfl, rfl⟩) | (go_at_call 34; refine (isNaN_any _ (by omega) _).mono ?_; rintro e w' ⟨rfl, rfl⟩) | (go_at_call 35; refine (HN.out _).mono ?_; rintro e w' ⟨rfl, rfl⟩))
  go_ret
  exact ⟨rfl, rfl⟩

set_option maxHeartbeats 1000000 in
theorem Ldexp_any (f r : Nat) (hr : r < 4503599627370496) (hf : f = 4602678819172646912 + r) (w : World) :
    Calls Tryf.prog 25 #[.float .f64 f, .int .i64 53] w fun e w' => e = .returned (.float .f64 (4841369599423283200 + r)) ∧ w' = w := by
  have HN : Hid (∀ w, Calls Tryf.prog 31 #[.float .f64 f, .int .i64 53] w fun e w' => e = .returned (.float .f64 (4841369599423283200 + r)) ∧ w' = w) := ldexp_any f r hr hf
  generalize 4841369599423283200 + r = g at *
  clear hf
  go_enter Tryf.func25, Tryf.ntmps25
  go_wp2_with (go_at_call 31; refine (HN.out _).mono ?_; rintro e w' ⟨rfl, rfl⟩)
  go_ret
  exact ⟨rfl, rfl⟩

theorem toInt_run (r : Nat) (hr : r < 4503599627370496) (w : World) : (convert 23 22 (.float .f64 (4841369599423283200 + r))).run Tryf.prog w = .ok (.int .u64 ((4503599627370496 + r : Nat) : Int)) w := by
  refine run_convert_float_int w 23 22 .f64 .u64 _ _ (by rw [Tryf.underlying23]; rfl) Tryf.underlying22 ?_
  have h := toInt_word r hr
  unfold floatToIntVal
  have e : FloatKind.decode .f64 (4841369599423283200 + r) = Ieee.double.read (4841369599423283200 + r) := rfl
  rw [e, h]
  have m1 : IntKind.u64.min = 0 := by decide
  have m2 : IntKind.u64.max = 18446744073709551615 := by decide
  simp only [m1, m2]
  rw [if_pos ⟨by omega, by omega⟩]

theorem ns_bd (b : Nat) : ns b ≤ 1126 := by unfold ns; split <;> omega

set_option maxHeartbeats 1000000 in
theorem binaryFraction_any (b : Nat) (h0 : 0 < b) (h1 : b ≤ 4841369599423283200) (w : World) :
    Calls Tryf.prog 18 #[.float .f64 b] w fun e w' => e = .returned (.tuple #[.int .u64 (nm b), .int .u64 (ns b)]) ∧ w' = w := by
  have hb := nm_bd b h0
  have hs := ns_bd b
  obtain ⟨r, hr⟩ : ∃ r, nm b = 4503599627370496 + r := ⟨nm b - 4503599627370496, by omega⟩
  have HN : Hid (∀ w, Calls Tryf.prog 24 #[.float .f64 b] w fun e w' => e = .returned (.tuple #[.float .f64 (4602678819172646912 + r), .int .i64 (53 - (ns b : Int))]) ∧ w' = w) := by
    have := Frexp_any b h0 h1
    rw [show nm b - 4503599627370496 = r from by omega] at this
    exact this
  have HL : Hid (∀ w, Calls Tryf.prog 25 #[.float .f64 (4602678819172646912 + r), .int .i64 53] w fun e w' => e = .returned (.float .f64 (4841369599423283200 + r)) ∧ w' = w) := Ldexp_any _ r (by omega) rfl
  have hc := toInt_run r (by omega)
  rw [hr]
  generalize 4841369599423283200 + r = g at *
  generalize 4602678819172646912 + r = f at *
  generalize 4503599627370496 + r = m at *
  generalize ns b = s at *
  clear hr
  go_enter Tryf.func18, Tryf.ntmps18
  go_wp2_with (first | (go_at_call 24; refine (HN.out _).mono ?_; rintro e w' ⟨rfl, rfl⟩) | (go_at_call 25; refine (HL.out _).mono ?_; rintro e w' ⟨rfl, rfl⟩))
  go_ret2
  exact ⟨ret_pair rfl (by omega), rfl⟩

/-- The word in a slot. -/
def fltOf : Value → Nat | .float _ b => b | _ => 0

theorem dbl_gt (v : Nat) (h0 : 0 < v) : v < dbl v := by unfold dbl; split <;> omega
theorem dbl_le (v : Nat) (h : v < 4841369599423283200) : dbl v < 4845873199050653696 := by unfold dbl; split <;> omega

set_option maxHeartbeats 1000000 in
theorem split_any (b : Nat) (h0 : 0 < b) (h1 : b < 4845873199050653696) (w : World) :
    Calls Tryf.prog 8 #[.float .f64 b] w fun e w' => e = .returned (.tuple #[.int .u64 (nm b), .int .u64 (ns b)]) ∧ w' = w := by
  have hsb := ns_bd b
  go_enter Tryf.func8, Tryf.ntmps8
  go_wp2
  go_loop [4, 5] (fun x y => ∃ v k : Nat, 0 < v ∧ v < 4845873199050653696 ∧ nm v = nm b ∧ ns v + k = ns b ∧ x = .float .f64 v ∧ y = .int .u64 k) (fun x _ => 4845873199050653696 - fltOf x)
  case atStart => exact ⟨b, 0, h0, h1, rfl, rfl, rfl, rfl⟩
  case round =>
    obtain ⟨v, k, v0, v1, hm, hs, rfl, rfl⟩ := hrel
    have HM : Hid (nm v = nm b) := hm
    have HS : Hid (ns v + k = ns b) := hs
    have hk : k ≤ 1126 := by omega
    clear hm hs
    by_cases hlt : v < 4841369599423283200
    · have ho : FloatKind.f64.format.order v 4841369599423283200 = some .lt := ord_lt v _ (by omega) (by omega) hlt
      have hmul : ∀ (t : TypeId) (w : World), (binOp .mul t (.float .f64 v) (.float .f64 4611686018427387904)).run Tryf.prog w = .ok (.float .f64 (dbl v)) w := fun t w => run_float_arith w .mul t .f64 _ _ _ (mul_two v v0 hlt)
      go_wp2
      go_round
      case rel =>
        refine ⟨dbl v, k + 1, by have := dbl_gt v v0; omega, dbl_le v hlt, by rw [nm_dbl v v0]; exact HM.out, ?_, rfl, by go_num⟩
        have := HS.out
        have := ns_dbl v v0 hlt
        omega
      case measure =>
        have := dbl_gt v v0
        have := dbl_le v hlt
        simp only [fltOf]
        omega
    · have ho : (FloatKind.f64.format.order v 4841369599423283200 == some .lt) = false := by
        rw [ord v _ (by omega) (by omega)]
        rcases Nat.lt_trichotomy v 4841369599423283200 with j | j | j
        · omega
        · rw [Nat.compare_eq_eq.2 j]; rfl
        · rw [Nat.compare_eq_gt.2 j]; rfl
      obtain ⟨r, hr, rfl⟩ : ∃ r, r < 4503599627370496 ∧ v = 4841369599423283200 + r := ⟨v - 4841369599423283200, by omega, by omega⟩
      have hc := toInt_run r hr
      have e1 : nm (4841369599423283200 + r) = 4503599627370496 + r := by unfold nm; rw [if_neg (by omega)]; omega
      have e2 : ns (4841369599423283200 + r) = 0 := by unfold ns; rw [if_neg (by omega)]; omega
      have HM2 : Hid (4503599627370496 + r = nm b) := by rw [← e1]; exact HM.out
      have HS2 : Hid (k = ns b) := by
        have := HS.out
        rw [e2] at this
        have e : k = ns b := by omega
        exact e
      clear HM HS e1 e2 hlt
      generalize 4841369599423283200 + r = g at *
      generalize 4503599627370496 + r = m at *
      go_wp2
      go_ret2
      exact ⟨ret_pair (by rw [HM2.out]) (by rw [HS2.out]), rfl⟩
end Go.Proofs.Qxb6614033aFmt
