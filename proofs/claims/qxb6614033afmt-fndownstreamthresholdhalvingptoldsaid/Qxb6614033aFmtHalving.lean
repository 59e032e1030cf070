/-
  THE WALK of 'FnDownstreamThresholdHalvingP'.
-/
import Derived.Test.Qxb6614033aFmtZz
import Derived.Test.Qxb6614033aFmtHalf
import Derived.Test.Qxb6614033aFmtExact
namespace Go.Proofs.Qxb6614033aFmt
open Go.RowKit Go.Extern.Stop Go.Stop Go.Extern

set_option maxRecDepth 100000 in
set_option maxHeartbeats 1000000 in
theorem half_out1 (t : Int) (b : Nat) (w : World) (h : (FloatKind.f64.format.order b 9007199254740992 == some .gt || FloatKind.f64.format.order b 9007199254740992 == some .eq) = false) :
    Calls Tryf.prog 4 #[.int .u64 t, .float .f64 b] w fun e w' => e = .returned (.bool true) ∧ Below w.heap.size w w' := by
  go_enter Tryf.func4, Tryf.ntmps4
  go_wp2
  go_ret
  exact ⟨rfl, Below.refl _ _⟩

set_option maxRecDepth 100000 in
set_option maxHeartbeats 1000000 in
theorem half_out2 (t : Int) (b : Nat) (w : World) (h : (FloatKind.f64.format.order b 9007199254740992 == some .gt || FloatKind.f64.format.order b 9007199254740992 == some .eq) = true)
    (h2 : (FloatKind.f64.format.order b 4607182418800017408 == some .lt) = false) :
    Calls Tryf.prog 4 #[.int .u64 t, .float .f64 b] w fun e w' => e = .returned (.bool true) ∧ Below w.heap.size w w' := by
  go_enter Tryf.func4, Tryf.ntmps4
  go_wp2
  go_ret
  exact ⟨rfl, Below.refl _ _⟩

theorem half_order (b : Nat) (h0 : 9007199254740992 ≤ b) (h1 : b < 4607182418800017408) : (FloatKind.f64.format.order b 9007199254740992 == some .gt || FloatKind.f64.format.order b 9007199254740992 == some .eq) = true := by
  rw [ord b _ (by omega) (by omega)]
  rcases Nat.lt_trichotomy b 9007199254740992 with j | j | j
  · omega
  · rw [Nat.compare_eq_eq.2 j]; rfl
  · rw [Nat.compare_eq_gt.2 j]; rfl

theorem quo_run (b : Nat) (h0 : 9007199254740992 ≤ b) (h1 : b < 4607182418800017408) (t : TypeId) (w : World) : (binOp .quo t (.float .f64 b) (.float .f64 4611686018427387904)).run Tryf.prog w = .ok (.float .f64 (b - 4503599627370496)) w :=
  run_float_arith w .quo t .f64 _ _ _ (div_two b h0 (by omega))

set_option maxRecDepth 100000 in
set_option maxHeartbeats 2000000 in
theorem half_big (F : Interp) (a : Addr) (s : ByteArray) (t : Int) (b : Nat) (w : World) (hw : Start F a s w) (t1 : 72057594037927935 < t) (b0 : 9007199254740992 ≤ b) (b1 : b < 4607182418800017408) :
    Calls Tryf.prog 4 #[.int .u64 t, .float .f64 b] w fun e w' => e = .returned (.bool true) ∧ Below w.heap.size w w' := by
  have o0 := half_order b b0 b1
  have o1 : FloatKind.f64.format.order b 4607182418800017408 = some .lt := ord_lt b _ (by omega) (by omega) b1
  have hq := quo_run b b0 b1
  have hr : Refused t b := .inl t1
  have hr2 : Refused t (b - 4503599627370496) := .inl t1
  have hd : decide (72057594037927935 < t) = true := decide_eq_true t1
  have hc0 : 0 < b - 4503599627370496 := by omega
  generalize b - 4503599627370496 = c at *
  go_enter Tryf.func4, Tryf.ntmps4
  go_wp2_with fail
  refine (zzhi_ref F a s t b _ hw (by omega) (by omega) hr).mono ?_
  rintro e w1 ⟨⟨p1, rfl⟩, hb1⟩
  go_wp2_with fail
  refine (zzlo_ref F a s t b _ (hw.below hb1) (by omega) (by omega) hr).mono ?_
  rintro e w2 ⟨⟨p2, rfl⟩, hb2⟩
  go_wp2_with fail
  refine (zzs_ref F a s t b _ ((hw.below hb1).below hb2) (by omega) (by omega) hr).mono ?_
  rintro e w3 ⟨⟨p3, rfl⟩, hb3⟩
  go_wp2_with fail
  refine (zzhi_ref F a s t c _ (((hw.below hb1).below hb2).below hb3) (by omega) (by omega) hr2).mono ?_
  rintro e w4 ⟨⟨p4, rfl⟩, hb4⟩
  go_wp2_with fail
  refine (zzlo_ref F a s t c _ ((((hw.below hb1).below hb2).below hb3).below hb4) (by omega) (by omega) hr2).mono ?_
  rintro e w5 ⟨⟨p5, rfl⟩, hb5⟩
  go_wp2_with fail
  refine (zzs_ref F a s t c _ (((((hw.below hb1).below hb2).below hb3).below hb4).below hb5) (by omega) (by omega) hr2).mono ?_
  rintro e w6 ⟨⟨p6, rfl⟩, hb6⟩
  have hB := (((((hb1.trans (hb2.mono hb1.size)).trans (hb3.mono (Nat.le_trans hb1.size hb2.size))).trans (hb4.mono (Nat.le_trans (Nat.le_trans hb1.size hb2.size) hb3.size))).trans (hb5.mono (Nat.le_trans (Nat.le_trans (Nat.le_trans hb1.size hb2.size) hb3.size) hb4.size))).trans (hb6.mono (Nat.le_trans (Nat.le_trans (Nat.le_trans (Nat.le_trans hb1.size hb2.size) hb3.size) hb4.size) hb5.size)))
  clear hb1 hb2 hb3 hb4 hb5 hb6
  go_wp2
  go_ret
  exact ⟨rfl, hB⟩

set_option maxRecDepth 100000 in
set_option maxHeartbeats 2000000 in
theorem half_low (F : Interp) (a : Addr) (s : ByteArray) (t : Int) (b : Nat) (w : World) (hw : Start F a s w) (t0 : 0 ≤ t) (t1 : t ≤ 72057594037927935) (b0 : 9007199254740992 ≤ b) (b1 : b < 4607182418800017408)
    (hN : blen (nm b * (72057594037927936 - t)) ≤ ns b) :
    Calls Tryf.prog 4 #[.int .u64 t, .float .f64 b] w fun e w' => e = .returned (.bool true) ∧ Below w.heap.size w w' := by
  have o0 := half_order b b0 b1
  have o1 : FloatKind.f64.format.order b 4607182418800017408 = some .lt := ord_lt b _ (by omega) (by omega) b1
  have hq := quo_run b b0 b1
  have hd : decide (72057594037927935 < t) = false := decide_eq_false (by omega)
  have hm := nm_bd b (by omega)
  have hs := ns_bd b
  have hp := prod_bd (nm b) t (by omega) (by omega) t0 t1
  obtain ⟨n1, n2⟩ := ns_half b b0 b1
  have n3 := nm_half b b0
  have hr : Refused t b := .inr ⟨b1, hN⟩
  have hr2 : Refused t (b - 4503599627370496) := .inr ⟨by omega, by rw [n1, n3]; omega⟩
  have hc0 : 0 < b - 4503599627370496 := by omega
  have hc1 : b - 4503599627370496 < 4607182418800017408 := by omega
  clear n1 n3
  generalize b - 4503599627370496 = c at *
  go_enter Tryf.func4, Tryf.ntmps4
  go_wp2_with fail
  refine (zzhi_ref F a s t b _ hw (by omega) (by omega) hr).mono ?_
  rintro e w1 ⟨⟨p1, rfl⟩, hb1⟩
  go_wp2_with fail
  refine (zzlo_ref F a s t b _ (hw.below hb1) (by omega) (by omega) hr).mono ?_
  rintro e w2 ⟨⟨p2, rfl⟩, hb2⟩
  go_wp2_with fail
  refine (zzs_ref F a s t b _ ((hw.below hb1).below hb2) (by omega) (by omega) hr).mono ?_
  rintro e w3 ⟨⟨p3, rfl⟩, hb3⟩
  go_wp2_with fail
  refine (zzhi_ref F a s t c _ (((hw.below hb1).below hb2).below hb3) (by omega) (by omega) hr2).mono ?_
  rintro e w4 ⟨⟨p4, rfl⟩, hb4⟩
  go_wp2_with fail
  refine (zzlo_ref F a s t c _ ((((hw.below hb1).below hb2).below hb3).below hb4) (by omega) (by omega) hr2).mono ?_
  rintro e w5 ⟨⟨p5, rfl⟩, hb5⟩
  go_wp2_with fail
  refine (zzs_ref F a s t c _ (((((hw.below hb1).below hb2).below hb3).below hb4).below hb5) (by omega) (by omega) hr2).mono ?_
  rintro e w6 ⟨⟨p6, rfl⟩, hb6⟩
  have hB := (((((hb1.trans (hb2.mono hb1.size)).trans (hb3.mono (Nat.le_trans hb1.size hb2.size))).trans (hb4.mono (Nat.le_trans (Nat.le_trans hb1.size hb2.size) hb3.size))).trans (hb5.mono (Nat.le_trans (Nat.le_trans (Nat.le_trans hb1.size hb2.size) hb3.size) hb4.size))).trans (hb6.mono (Nat.le_trans (Nat.le_trans (Nat.le_trans (Nat.le_trans hb1.size hb2.size) hb3.size) hb4.size) hb5.size)))
  clear hb1 hb2 hb3 hb4 hb5 hb6
  go_wp2_with fail
  refine (split_any b (by omega) (by omega) _).mono ?_
  rintro e w7 ⟨rfl, rfl⟩
  go_wp2_with fail
  refine (zzMul_any _ _ (by omega) (by omega) (by omega) (by omega) _).mono ?_
  rintro e w8 ⟨rfl, rfl⟩
  generalize (nm b : Int) * (72057594037927936 - t) = N at *
  go_wp2_with fail
  refine (bitLen_N N (by omega) (by omega) _).mono ?_
  rintro e w9 ⟨rfl, rfl⟩
  go_wp2
  go_ret
  exact ⟨rfl, hB⟩

end Go.Proofs.Qxb6614033aFmt
