/-
  THE WALK of 'FnDownstreamThresholdHalvingP': both fractions are accepted.
-/
import Derived.Test.Qxb6614033aFmtHalving2
namespace Go.Proofs.Qxb6614033aFmt
open Go.RowKit Go.Extern.Stop Go.Stop Go.Extern

set_option maxRecDepth 100000 in
set_option maxHeartbeats 4000000 in
theorem half_okA (F : Interp) (a : Addr) (s : ByteArray) (t : Int) (b : Nat) (w : World) (_hw : Start F a s w) (t0 : 0 ≤ t) (t1 : t ≤ 72057594037927935) (b0 : 9007199254740992 ≤ b) (b1 : b < 4607182418800017408)
    (hN : ns b + 1 < blen (nm b * (72057594037927936 - t))) (hz : (nm b * (72057594037927936 - t)) / 18446744073709551616 = 0) :
    Calls Tryf.prog 4 #[.int .u64 t, .float .f64 b] w fun e w' => e = .returned (.bool true) ∧ Below w.heap.size w w' := by
  have o0 := half_order b b0 b1
  have o1 : FloatKind.f64.format.order b 4607182418800017408 = some .lt := ord_lt b _ (by omega) (by omega) b1
  have hq := quo_run b b0 b1
  have hd : decide (72057594037927935 < t) = false := decide_eq_false (by omega)
  have hm := nm_bd b (by omega)
  have hs := ns_bd b
  have hp := prod_bd (nm b) t (by omega) (by omega) t0 t1
  obtain ⟨n1, n2⟩ := ns_half b b0 b1
  have n3 := nm_half b b0
  have HNN : Hid (ns b + 1 < blen (nm b * (72057594037927936 - t))) := hN
  have hN' : ns b < blen (nm b * (72057594037927936 - t)) := by omega
  have Kb5 : Hid (∀ w, Calls Tryf.prog 5 #[.int .u64 t, .float .f64 b] w fun e w' => e = .returned (.tuple #[.int .u64 (nm b * (72057594037927936 - t) / 18446744073709551616), .nilIface]) ∧ Below w.heap.size w w') := by
    intro w; have := zzhi_ok t b w t0 t1 (by omega) (by omega) hN'; exact this
  have Kb6 : Hid (∀ w, Calls Tryf.prog 6 #[.int .u64 t, .float .f64 b] w fun e w' => e = .returned (.tuple #[.int .u64 (nm b * (72057594037927936 - t) % 18446744073709551616), .nilIface]) ∧ Below w.heap.size w w') := by
    intro w; have := zzlo_ok t b w t0 t1 (by omega) (by omega) hN'; exact this
  have Kb7 : Hid (∀ w, Calls Tryf.prog 7 #[.int .u64 t, .float .f64 b] w fun e w' => e = .returned (.tuple #[.int .u64 (ns b + 56), .nilIface]) ∧ Below w.heap.size w w') := by
    intro w; have := zzs_ok t b w t0 t1 (by omega) (by omega) hN'; exact this
  have Kc5 : Hid (∀ w, Calls Tryf.prog 5 #[.int .u64 t, .float .f64 (b - 4503599627370496)] w fun e w' => e = .returned (.tuple #[.int .u64 (nm b * (72057594037927936 - t) / 18446744073709551616), .nilIface]) ∧ Below w.heap.size w w') := by
    intro w; have := zzhi_ok t (b - 4503599627370496) w t0 t1 (by omega) (by omega) (by rw [n1, n3]; omega); rw [n3] at this; exact this
  have Kc6 : Hid (∀ w, Calls Tryf.prog 6 #[.int .u64 t, .float .f64 (b - 4503599627370496)] w fun e w' => e = .returned (.tuple #[.int .u64 (nm b * (72057594037927936 - t) % 18446744073709551616), .nilIface]) ∧ Below w.heap.size w w') := by
    intro w; have := zzlo_ok t (b - 4503599627370496) w t0 t1 (by omega) (by omega) (by rw [n1, n3]; omega); rw [n3] at this; exact this
  have Kc7 : Hid (∀ w, Calls Tryf.prog 7 #[.int .u64 t, .float .f64 (b - 4503599627370496)] w fun e w' => e = .returned (.tuple #[.int .u64 (ns b + 57), .nilIface]) ∧ Below w.heap.size w w') := by
    intro w; have := zzs_ok t (b - 4503599627370496) w t0 t1 (by omega) (by omega) (by rw [n1, n3]; omega); rw [n1] at this; simp only [show (((ns b + 1 : Nat) : Int) + 56) = (ns b : Int) + 57 from by omega] at this; exact this
  have HS : Hid (∀ w, Calls Tryf.prog 8 #[.float .f64 b] w fun e w' => e = .returned (.tuple #[.int .u64 (nm b), .int .u64 (ns b)]) ∧ w' = w) := split_any b (by omega) (by omega)
  have hgt : ns b + 1 < blen (nm b * (72057594037927936 - t)) := by omega
  clear hN HNN
  clear n1 n3
  generalize hNe : (nm b : Int) * (72057594037927936 - t) = N at *
  have hbl := blen_le N 109 (by omega) (by have : (2 : Int) ^ 109 = 649037107316853453566312041152512 := by decide
                                           omega)
  have hbl2 : blen N ≤ 109 := hbl.2
  clear hbl
  have z1 : (N / 18446744073709551616 == 0) = true := beq_iff_eq.2 hz
  have z2 : (N % 18446744073709551616 == 0) = false := beq_eq_false_iff_ne.2 (by omega)
  clear hz
  generalize b - 4503599627370496 = c at *
  generalize ns b = k at *
  have hmore : red (k + 56 + 1) (N / 18446744073709551616) (N % 18446744073709551616) = ((red (k + 56) (N / 18446744073709551616) (N % 18446744073709551616)).1, (red (k + 56) (N / 18446744073709551616) (N % 18446744073709551616)).2.1, (red (k + 56) (N / 18446744073709551616) (N % 18446744073709551616)).2.2 + 1) := by
    refine red_more (k + 56) _ _ (by omega) (by omega) (by omega) (by omega) ?_
    have e1 : (2 : Int) ^ 109 ≤ 2 ^ (k + 56) := by
      rw [show k + 56 = 109 + (k - 53) from by omega, Int.pow_add]
      have h1 : (1 : Int) ≤ 2 ^ (k - 53) := Int.pow_pos (by omega)
      have h2 : (2 : Int) ^ 109 * 1 ≤ 2 ^ 109 * 2 ^ (k - 53) := Int.mul_le_mul_of_nonneg_left h1 (by decide)
      omega
    have e2 : (2 : Int) ^ 109 = 649037107316853453566312041152512 := by decide
    rw [e2] at e1
    generalize (2 : Int) ^ (k + 56) = q at *
    omega
  have d1 : decide (blen N ≤ (k : Int)) = false := decide_eq_false (by omega)
  have d2 : decide (blen N ≤ (k : Int) + 56) = true := decide_eq_true (by omega)
  have d3 : decide ((k : Int) + 56 < blen N + 56) = true := decide_eq_true (by omega)
  have d4 : decide (blen N + 55 ≤ (k : Int) + 56) = false := decide_eq_false (by omega)
  go_enter Tryf.func4, Tryf.ntmps4
  go_wp2_with fail
  refine (Kb5.out _).mono ?_
  rintro e w1 ⟨rfl, hb1⟩
  go_wp2_with fail
  refine (Kb6.out _).mono ?_
  rintro e w2 ⟨rfl, hb2⟩
  go_wp2_with fail
  refine (Kb7.out _).mono ?_
  rintro e w3 ⟨rfl, hb3⟩
  go_wp2_with fail
  refine (Kc5.out _).mono ?_
  rintro e w4 ⟨rfl, hb4⟩
  go_wp2_with fail
  refine (Kc6.out _).mono ?_
  rintro e w5 ⟨rfl, hb5⟩
  go_wp2_with fail
  refine (Kc7.out _).mono ?_
  rintro e w6 ⟨rfl, hb6⟩
  have hB := (((((hb1.trans (hb2.mono hb1.size)).trans (hb3.mono (Nat.le_trans hb1.size hb2.size))).trans (hb4.mono (Nat.le_trans (Nat.le_trans hb1.size hb2.size) hb3.size))).trans (hb5.mono (Nat.le_trans (Nat.le_trans (Nat.le_trans hb1.size hb2.size) hb3.size) hb4.size))).trans (hb6.mono (Nat.le_trans (Nat.le_trans (Nat.le_trans (Nat.le_trans hb1.size hb2.size) hb3.size) hb4.size) hb5.size)))
  clear hb1 hb2 hb3 hb4 hb5 hb6
  go_wp2_with fail
  refine (HS.out _).mono ?_
  rintro e w7 ⟨rfl, rfl⟩
  go_wp2_with fail
  refine (zzMul_any _ _ (by omega) (by omega) (by omega) (by omega) _).mono ?_
  rintro e w8 ⟨rfl, rfl⟩
  rw [hNe]
  go_wp2_with fail
  refine (bitLen_N N (by omega) (by omega) _).mono ?_
  rintro e w9 ⟨rfl, rfl⟩
  go_wp2_with fail
  refine (bitLen_N N (by omega) (by omega) _).mono ?_
  rintro e w10 ⟨rfl, rfl⟩
  go_wp2_with fail
  rw [show (k : Int) + 56 = ((k + 56 : Nat) : Int) from by omega]
  refine (zzReduce_any _ _ (k + 56) (by omega) (by omega) (by omega) (by omega) (by omega) (by omega) _).mono ?_
  rintro e w11 ⟨rfl, rfl⟩
  go_wp2_with fail
  rw [show (k : Int) + 57 = ((k + 56 + 1 : Nat) : Int) from by omega]
  refine (zzReduce_any _ _ (k + 56 + 1) (by omega) (by omega) (by omega) (by omega) (by omega) (by omega) _).mono ?_
  rintro e w12 ⟨rfl, rfl⟩
  rw [hmore]
  have hrb := red_bd (k + 56) (N / 18446744073709551616) (N % 18446744073709551616)
  generalize red (k + 56) (N / 18446744073709551616) (N % 18446744073709551616) = R at *
  obtain ⟨r1, r2, r3⟩ := R
  have hr3 : r3 ≤ 1182 := by simp only at hrb; omega
  clear hrb
  go_wp2
  go_ret
  exact ⟨by simp, hB⟩

set_option maxRecDepth 100000 in
set_option maxHeartbeats 4000000 in
theorem half_okB (F : Interp) (a : Addr) (s : ByteArray) (t : Int) (b : Nat) (w : World) (_hw : Start F a s w) (t0 : 0 ≤ t) (t1 : t ≤ 72057594037927935) (b0 : 9007199254740992 ≤ b) (b1 : b < 4607182418800017408)
    (hN : ns b + 1 < blen (nm b * (72057594037927936 - t))) (hz : ¬ (nm b * (72057594037927936 - t)) / 18446744073709551616 = 0) :
    Calls Tryf.prog 4 #[.int .u64 t, .float .f64 b] w fun e w' => e = .returned (.bool true) ∧ Below w.heap.size w w' := by
  have o0 := half_order b b0 b1
  have o1 : FloatKind.f64.format.order b 4607182418800017408 = some .lt := ord_lt b _ (by omega) (by omega) b1
  have hq := quo_run b b0 b1
  have hd : decide (72057594037927935 < t) = false := decide_eq_false (by omega)
  have hm := nm_bd b (by omega)
  have hs := ns_bd b
  have hp := prod_bd (nm b) t (by omega) (by omega) t0 t1
  obtain ⟨n1, n2⟩ := ns_half b b0 b1
  have n3 := nm_half b b0
  have HNN : Hid (ns b + 1 < blen (nm b * (72057594037927936 - t))) := hN
  have hN' : ns b < blen (nm b * (72057594037927936 - t)) := by omega
  have Kb5 : Hid (∀ w, Calls Tryf.prog 5 #[.int .u64 t, .float .f64 b] w fun e w' => e = .returned (.tuple #[.int .u64 (nm b * (72057594037927936 - t) / 18446744073709551616), .nilIface]) ∧ Below w.heap.size w w') := by
    intro w; have := zzhi_ok t b w t0 t1 (by omega) (by omega) hN'; exact this
  have Kb6 : Hid (∀ w, Calls Tryf.prog 6 #[.int .u64 t, .float .f64 b] w fun e w' => e = .returned (.tuple #[.int .u64 (nm b * (72057594037927936 - t) % 18446744073709551616), .nilIface]) ∧ Below w.heap.size w w') := by
    intro w; have := zzlo_ok t b w t0 t1 (by omega) (by omega) hN'; exact this
  have Kb7 : Hid (∀ w, Calls Tryf.prog 7 #[.int .u64 t, .float .f64 b] w fun e w' => e = .returned (.tuple #[.int .u64 (ns b + 56), .nilIface]) ∧ Below w.heap.size w w') := by
    intro w; have := zzs_ok t b w t0 t1 (by omega) (by omega) hN'; exact this
  have Kc5 : Hid (∀ w, Calls Tryf.prog 5 #[.int .u64 t, .float .f64 (b - 4503599627370496)] w fun e w' => e = .returned (.tuple #[.int .u64 (nm b * (72057594037927936 - t) / 18446744073709551616), .nilIface]) ∧ Below w.heap.size w w') := by
    intro w; have := zzhi_ok t (b - 4503599627370496) w t0 t1 (by omega) (by omega) (by rw [n1, n3]; omega); rw [n3] at this; exact this
  have Kc6 : Hid (∀ w, Calls Tryf.prog 6 #[.int .u64 t, .float .f64 (b - 4503599627370496)] w fun e w' => e = .returned (.tuple #[.int .u64 (nm b * (72057594037927936 - t) % 18446744073709551616), .nilIface]) ∧ Below w.heap.size w w') := by
    intro w; have := zzlo_ok t (b - 4503599627370496) w t0 t1 (by omega) (by omega) (by rw [n1, n3]; omega); rw [n3] at this; exact this
  have Kc7 : Hid (∀ w, Calls Tryf.prog 7 #[.int .u64 t, .float .f64 (b - 4503599627370496)] w fun e w' => e = .returned (.tuple #[.int .u64 (ns b + 57), .nilIface]) ∧ Below w.heap.size w w') := by
    intro w; have := zzs_ok t (b - 4503599627370496) w t0 t1 (by omega) (by omega) (by rw [n1, n3]; omega); rw [n1] at this; simp only [show (((ns b + 1 : Nat) : Int) + 56) = (ns b : Int) + 57 from by omega] at this; exact this
  have HS : Hid (∀ w, Calls Tryf.prog 8 #[.float .f64 b] w fun e w' => e = .returned (.tuple #[.int .u64 (nm b), .int .u64 (ns b)]) ∧ w' = w) := split_any b (by omega) (by omega)
  have hgt : ns b + 1 < blen (nm b * (72057594037927936 - t)) := by omega
  clear hN HNN
  clear n1 n3
  generalize hNe : (nm b : Int) * (72057594037927936 - t) = N at *
  have hbl := blen_le N 109 (by omega) (by have : (2 : Int) ^ 109 = 649037107316853453566312041152512 := by decide
                                           omega)
  have hbl2 : blen N ≤ 109 := hbl.2
  clear hbl
  have z1 : (N / 18446744073709551616 == 0) = false := beq_eq_false_iff_ne.2 hz
  clear hz
  generalize b - 4503599627370496 = c at *
  generalize ns b = k at *
  have hmore : red (k + 56 + 1) (N / 18446744073709551616) (N % 18446744073709551616) = ((red (k + 56) (N / 18446744073709551616) (N % 18446744073709551616)).1, (red (k + 56) (N / 18446744073709551616) (N % 18446744073709551616)).2.1, (red (k + 56) (N / 18446744073709551616) (N % 18446744073709551616)).2.2 + 1) := by
    refine red_more (k + 56) _ _ (by omega) (by omega) (by omega) (by omega) ?_
    have e1 : (2 : Int) ^ 109 ≤ 2 ^ (k + 56) := by
      rw [show k + 56 = 109 + (k - 53) from by omega, Int.pow_add]
      have h1 : (1 : Int) ≤ 2 ^ (k - 53) := Int.pow_pos (by omega)
      have h2 : (2 : Int) ^ 109 * 1 ≤ 2 ^ 109 * 2 ^ (k - 53) := Int.mul_le_mul_of_nonneg_left h1 (by decide)
      omega
    have e2 : (2 : Int) ^ 109 = 649037107316853453566312041152512 := by decide
    rw [e2] at e1
    generalize (2 : Int) ^ (k + 56) = q at *
    omega
  have d1 : decide (blen N ≤ (k : Int)) = false := decide_eq_false (by omega)
  have d2 : decide (blen N ≤ (k : Int) + 56) = true := decide_eq_true (by omega)
  have d3 : decide ((k : Int) + 56 < blen N + 56) = true := decide_eq_true (by omega)
  have d4 : decide (blen N + 55 ≤ (k : Int) + 56) = false := decide_eq_false (by omega)
  go_enter Tryf.func4, Tryf.ntmps4
  go_wp2_with fail
  refine (Kb5.out _).mono ?_
  rintro e w1 ⟨rfl, hb1⟩
  go_wp2_with fail
  refine (Kb6.out _).mono ?_
  rintro e w2 ⟨rfl, hb2⟩
  go_wp2_with fail
  refine (Kb7.out _).mono ?_
  rintro e w3 ⟨rfl, hb3⟩
  go_wp2_with fail
  refine (Kc5.out _).mono ?_
  rintro e w4 ⟨rfl, hb4⟩
  go_wp2_with fail
  refine (Kc6.out _).mono ?_
  rintro e w5 ⟨rfl, hb5⟩
  go_wp2_with fail
  refine (Kc7.out _).mono ?_
  rintro e w6 ⟨rfl, hb6⟩
  have hB := (((((hb1.trans (hb2.mono hb1.size)).trans (hb3.mono (Nat.le_trans hb1.size hb2.size))).trans (hb4.mono (Nat.le_trans (Nat.le_trans hb1.size hb2.size) hb3.size))).trans (hb5.mono (Nat.le_trans (Nat.le_trans (Nat.le_trans hb1.size hb2.size) hb3.size) hb4.size))).trans (hb6.mono (Nat.le_trans (Nat.le_trans (Nat.le_trans (Nat.le_trans hb1.size hb2.size) hb3.size) hb4.size) hb5.size)))
  clear hb1 hb2 hb3 hb4 hb5 hb6
  go_wp2_with fail
  refine (HS.out _).mono ?_
  rintro e w7 ⟨rfl, rfl⟩
  go_wp2_with fail
  refine (zzMul_any _ _ (by omega) (by omega) (by omega) (by omega) _).mono ?_
  rintro e w8 ⟨rfl, rfl⟩
  rw [hNe]
  go_wp2_with fail
  refine (bitLen_N N (by omega) (by omega) _).mono ?_
  rintro e w9 ⟨rfl, rfl⟩
  go_wp2_with fail
  refine (bitLen_N N (by omega) (by omega) _).mono ?_
  rintro e w10 ⟨rfl, rfl⟩
  go_wp2_with fail
  rw [show (k : Int) + 56 = ((k + 56 : Nat) : Int) from by omega]
  refine (zzReduce_any _ _ (k + 56) (by omega) (by omega) (by omega) (by omega) (by omega) (by omega) _).mono ?_
  rintro e w11 ⟨rfl, rfl⟩
  go_wp2_with fail
  rw [show (k : Int) + 57 = ((k + 56 + 1 : Nat) : Int) from by omega]
  refine (zzReduce_any _ _ (k + 56 + 1) (by omega) (by omega) (by omega) (by omega) (by omega) (by omega) _).mono ?_
  rintro e w12 ⟨rfl, rfl⟩
  rw [hmore]
  have hrb := red_bd (k + 56) (N / 18446744073709551616) (N % 18446744073709551616)
  generalize red (k + 56) (N / 18446744073709551616) (N % 18446744073709551616) = R at *
  obtain ⟨r1, r2, r3⟩ := R
  have hr3 : r3 ≤ 1182 := by simp only at hrb; omega
  clear hrb
  go_wp2
  go_ret
  exact ⟨by simp, hB⟩

theorem half_any (F : Interp) (a : Addr) (s : ByteArray) (t : Int) (b : Nat) (w : World) (hw : Start F a s w) (t0 : 0 ≤ t) (hb : b < 18446744073709551616) :
    Calls Tryf.prog 4 #[.int .u64 t, .float .f64 b] w fun e w' => e = .returned (.bool true) ∧ Below w.heap.size w w' := by
  cases h1 : (FloatKind.f64.format.order b 9007199254740992 == some .gt || FloatKind.f64.format.order b 9007199254740992 == some .eq)
  · exact half_out1 t b w h1
  cases h2 : (FloatKind.f64.format.order b 4607182418800017408 == some .lt)
  · exact half_out2 t b w h1 h2
  obtain ⟨b0, b1⟩ := half_range b hb h1 h2
  by_cases t1 : 72057594037927935 < t
  · exact half_big F a s t b w hw t1 b0 b1
  by_cases hN : blen (nm b * (72057594037927936 - t)) ≤ ns b
  · exact half_low F a s t b w hw t0 (by omega) b0 b1 hN
  by_cases hz : (nm b * (72057594037927936 - t)) / 18446744073709551616 = 0
  · by_cases hM : blen (nm b * (72057594037927936 - t)) = ns b + 1
    · exact half_midA F a s t b w hw t0 (by omega) b0 b1 hM hz
    · exact half_okA F a s t b w hw t0 (by omega) b0 b1 (by omega) hz
  · by_cases hM : blen (nm b * (72057594037927936 - t)) = ns b + 1
    · exact half_midB F a s t b w hw t0 (by omega) b0 b1 hM hz
    · exact half_okB F a s t b w hw t0 (by omega) b0 b1 (by omega) hz

end Go.Proofs.Qxb6614033aFmt
