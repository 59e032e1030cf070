/-
  THE WALK of 'FnDownstreamThresholdIsExactProduct'.
-/
import Derived.Test.Qxb6614033aFmtZz
namespace Go.Proofs.Qxb6614033aFmt
open Go.RowKit Go.Extern.Stop Go.Stop Go.Extern

set_option maxRecDepth 100000 in
set_option maxHeartbeats 1000000 in
theorem exact_out1 (t : Int) (b : Nat) (w : World) (h : (FloatKind.f64.format.order b 0 == some .gt) = false) :
    Calls Tryf.prog 3 #[.int .u64 t, .float .f64 b] w fun e w' => e = .returned (.bool true) ∧ Below w.heap.size w w' := by
  go_enter Tryf.func3, Tryf.ntmps3
  go_wp2
  go_ret
  exact ⟨rfl, Below.refl _ _⟩

set_option maxRecDepth 100000 in
set_option maxHeartbeats 1000000 in
theorem exact_out2 (t : Int) (b : Nat) (w : World) (h : (FloatKind.f64.format.order b 0 == some .gt) = true)
    (h2 : (FloatKind.f64.format.order b 4607182418800017408 == some .lt || FloatKind.f64.format.order b 4607182418800017408 == some .eq) = false) :
    Calls Tryf.prog 3 #[.int .u64 t, .float .f64 b] w fun e w' => e = .returned (.bool true) ∧ Below w.heap.size w w' := by
  go_enter Tryf.func3, Tryf.ntmps3
  go_wp2
  go_ret
  exact ⟨rfl, Below.refl _ _⟩

set_option maxRecDepth 100000 in
set_option maxHeartbeats 1000000 in
theorem exact_big (F : Interp) (a : Addr) (s : ByteArray) (t : Int) (b : Nat) (w : World) (hw : Start F a s w) (t0 : 72057594037927935 < t) (b0 : 0 < b) (b1 : b ≤ 4607182418800017408) :
    Calls Tryf.prog 3 #[.int .u64 t, .float .f64 b] w fun e w' => e = .returned (.bool true) ∧ Below w.heap.size w w' := by
  have o0 : FloatKind.f64.format.order b 0 = some .gt := ord_gt b 0 (by omega) (by omega) b0
  have o1 : (FloatKind.f64.format.order b 4607182418800017408 == some .lt || FloatKind.f64.format.order b 4607182418800017408 == some .eq) = true := by
    rw [ord b _ (by omega) (by omega)]
    rcases Nat.lt_trichotomy b 4607182418800017408 with j | j | j
    · rw [Nat.compare_eq_lt.2 j]; rfl
    · rw [Nat.compare_eq_eq.2 j]; rfl
    · omega
  have hr : Refused t b := .inl t0
  have hd : decide (72057594037927935 < t) = true := decide_eq_true t0
  go_enter Tryf.func3, Tryf.ntmps3
  go_wp2_with fail
  refine (zzhi_ref F a s t b _ hw (by omega) b0 hr).mono ?_
  rintro e w1 ⟨⟨p1, rfl⟩, hb1⟩
  go_wp2_with fail
  refine (zzlo_ref F a s t b _ (hw.below hb1) (by omega) b0 hr).mono ?_
  rintro e w2 ⟨⟨p2, rfl⟩, hb2⟩
  go_wp2_with fail
  refine (zzs_ref F a s t b _ ((hw.below hb1).below hb2) (by omega) b0 hr).mono ?_
  rintro e w3 ⟨⟨p3, rfl⟩, hb3⟩
  go_wp2
  go_ret
  exact ⟨rfl, (hb1.trans (hb2.mono hb1.size)).trans (hb3.mono (Nat.le_trans hb1.size hb2.size))⟩

set_option maxRecDepth 100000 in
set_option maxHeartbeats 1000000 in
theorem exact_one (t : Int) (w : World) (t1 : t ≤ 72057594037927935) :
    Calls Tryf.prog 3 #[.int .u64 t, .float .f64 4607182418800017408] w fun e w' => e = .returned (.bool true) ∧ Below w.heap.size w w' := by
  have o0 : FloatKind.f64.format.order 4607182418800017408 0 = some .gt := ord_gt _ 0 (by omega) (by omega) (by omega)
  have o1 : FloatKind.f64.format.order 4607182418800017408 4607182418800017408 = some .eq := ord_eq _ (by omega)
  have hd : decide (72057594037927935 < t) = false := decide_eq_false (by omega)
  go_enter Tryf.func3, Tryf.ntmps3
  go_wp2_with fail
  refine (zzhi_one t _ t1).mono ?_
  rintro e w1 ⟨rfl, rfl⟩
  go_wp2_with fail
  refine (zzlo_one t _ t1).mono ?_
  rintro e w2 ⟨rfl, rfl⟩
  go_wp2_with fail
  refine (zzs_one t _ t1).mono ?_
  rintro e w3 ⟨rfl, rfl⟩
  go_wp2
  go_ret
  exact ⟨rfl, Below.refl _ _⟩

theorem bitLen_N (N : Int) (h0 : 0 ≤ N) (h1 : N < 340282366920938463463374607431768211456) (w : World) :
    Calls Tryf.prog 10 #[.int .u64 (N / 18446744073709551616), .int .u64 (N % 18446744073709551616)] w fun e w' => e = .returned (.int .u64 (blen N)) ∧ w' = w := by
  have := zzBitLen_any (N / 18446744073709551616) (N % 18446744073709551616) (by omega) (by omega) (by omega) (by omega) w
  rw [show N / 18446744073709551616 * 18446744073709551616 + N % 18446744073709551616 = N from by omega] at this
  exact this

set_option maxRecDepth 100000 in
set_option maxHeartbeats 1000000 in
theorem exact_low (F : Interp) (a : Addr) (s : ByteArray) (t : Int) (b : Nat) (w : World) (hw : Start F a s w) (t0 : 0 ≤ t) (t1 : t ≤ 72057594037927935) (b0 : 0 < b) (b1 : b < 4607182418800017408)
    (hN : blen (nm b * (72057594037927936 - t)) ≤ ns b) :
    Calls Tryf.prog 3 #[.int .u64 t, .float .f64 b] w fun e w' => e = .returned (.bool true) ∧ Below w.heap.size w w' := by
  have o0 : FloatKind.f64.format.order b 0 = some .gt := ord_gt b 0 (by omega) (by omega) b0
  have o1 : FloatKind.f64.format.order b 4607182418800017408 = some .lt := ord_lt b _ (by omega) (by omega) b1
  have hr : Refused t b := .inr ⟨b1, hN⟩
  have hd : decide (72057594037927935 < t) = false := decide_eq_false (by omega)
  have hm := nm_bd b b0
  have hs := ns_bd b
  have hp := prod_bd (nm b) t (by omega) (by omega) t0 t1
  go_enter Tryf.func3, Tryf.ntmps3
  go_wp2_with fail
  refine (zzhi_ref F a s t b _ hw (by omega) b0 hr).mono ?_
  rintro e w1 ⟨⟨p1, rfl⟩, hb1⟩
  go_wp2_with fail
  refine (zzlo_ref F a s t b _ (hw.below hb1) (by omega) b0 hr).mono ?_
  rintro e w2 ⟨⟨p2, rfl⟩, hb2⟩
  go_wp2_with fail
  refine (zzs_ref F a s t b _ ((hw.below hb1).below hb2) (by omega) b0 hr).mono ?_
  rintro e w3 ⟨⟨p3, rfl⟩, hb3⟩
  have hB := (hb1.trans (hb2.mono hb1.size)).trans (hb3.mono (Nat.le_trans hb1.size hb2.size))
  go_wp2_with fail
  refine (split_any b b0 (by omega) _).mono ?_
  rintro e w4 ⟨rfl, rfl⟩
  go_wp2_with fail
  refine (zzMul_any _ _ (by omega) (by omega) (by omega) (by omega) _).mono ?_
  rintro e w5 ⟨rfl, rfl⟩
  generalize (nm b : Int) * (72057594037927936 - t) = N at *
  go_wp2_with fail
  refine (bitLen_N N (by omega) (by omega) _).mono ?_
  rintro e w6 ⟨rfl, rfl⟩
  go_wp2
  go_ret
  exact ⟨rfl, hB⟩

set_option maxRecDepth 100000 in
set_option maxHeartbeats 1000000 in
theorem exact_ok (t : Int) (b : Nat) (w : World) (t0 : 0 ≤ t) (t1 : t ≤ 72057594037927935) (b0 : 0 < b) (b1 : b < 4607182418800017408)
    (hN : ns b < blen (nm b * (72057594037927936 - t))) :
    Calls Tryf.prog 3 #[.int .u64 t, .float .f64 b] w fun e w' => e = .returned (.bool true) ∧ Below w.heap.size w w' := by
  have o0 : FloatKind.f64.format.order b 0 = some .gt := ord_gt b 0 (by omega) (by omega) b0
  have o1 : FloatKind.f64.format.order b 4607182418800017408 = some .lt := ord_lt b _ (by omega) (by omega) b1
  have hd : decide (72057594037927935 < t) = false := decide_eq_false (by omega)
  have hm := nm_bd b b0
  have hs := ns_bd b
  have hp := prod_bd (nm b) t (by omega) (by omega) t0 t1
  go_enter Tryf.func3, Tryf.ntmps3
  go_wp2_with fail
  refine (zzhi_ok t b _ t0 t1 b0 b1 hN).mono ?_
  rintro e w1 ⟨rfl, hb1⟩
  go_wp2_with fail
  refine (zzlo_ok t b _ t0 t1 b0 b1 hN).mono ?_
  rintro e w2 ⟨rfl, hb2⟩
  go_wp2_with fail
  refine (zzs_ok t b _ t0 t1 b0 b1 hN).mono ?_
  rintro e w3 ⟨rfl, hb3⟩
  have hB := (hb1.trans (hb2.mono hb1.size)).trans (hb3.mono (Nat.le_trans hb1.size hb2.size))
  go_wp2_with fail
  refine (split_any b b0 (by omega) _).mono ?_
  rintro e w4 ⟨rfl, rfl⟩
  go_wp2_with fail
  refine (zzMul_any _ _ (by omega) (by omega) (by omega) (by omega) _).mono ?_
  rintro e w5 ⟨rfl, rfl⟩
  generalize (nm b : Int) * (72057594037927936 - t) = N at *
  go_wp2_with fail
  refine (bitLen_N N (by omega) (by omega) _).mono ?_
  rintro e w6 ⟨rfl, rfl⟩
  generalize ns b = k at *
  go_wp2_with fail
  rw [show (k : Int) + 56 = ((k + 56 : Nat) : Int) from by omega]
  refine (zzReduce_any _ _ (k + 56) (by omega) (by omega) (by omega) (by omega) (by omega) (by omega) _).mono ?_
  rintro e w7 ⟨rfl, rfl⟩
  go_wp2_with fail
  rw [show (k : Int) + 56 = ((k + 56 : Nat) : Int) from by omega]
  refine (zzReduce_any _ _ (k + 56) (by omega) (by omega) (by omega) (by omega) (by omega) (by omega) _).mono ?_
  rintro e w8 ⟨rfl, rfl⟩
  generalize red (k + 56) (N / 18446744073709551616) (N % 18446744073709551616) = R at *
  go_wp2
  go_ret
  exact ⟨by simp, hB⟩

theorem exact_any (F : Interp) (a : Addr) (s : ByteArray) (t : Int) (b : Nat) (w : World) (hw : Start F a s w) (t0 : 0 ≤ t) (hb : b < 18446744073709551616) :
    Calls Tryf.prog 3 #[.int .u64 t, .float .f64 b] w fun e w' => e = .returned (.bool true) ∧ Below w.heap.size w w' := by
  cases h1 : (FloatKind.f64.format.order b 0 == some .gt)
  · exact exact_out1 t b w h1
  cases h2 : (FloatKind.f64.format.order b 4607182418800017408 == some .lt || FloatKind.f64.format.order b 4607182418800017408 == some .eq)
  · exact exact_out2 t b w h1 h2
  obtain ⟨b0, b1⟩ := above_zero b hb h1 h2
  by_cases t1 : 72057594037927935 < t
  · exact exact_big F a s t b w hw t1 b0 b1
  by_cases hb1 : b = 4607182418800017408
  · subst hb1; exact exact_one t w (by omega)
  by_cases hN : blen (nm b * (72057594037927936 - t)) ≤ ns b
  · exact exact_low F a s t b w hw t0 (by omega) b0 (by omega) hN
  · exact exact_ok t b w t0 (by omega) b0 (by omega) (by omega)

end Go.Proofs.Qxb6614033aFmt
