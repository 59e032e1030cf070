/-
  downstreamThreshold, by contracts.
-/
import Derived.Test.Qxb6614033aFmtErr
import Derived.Test.Qxb6614033aFmtExp
import Derived.Test.Qxb6614033aFmtFrexp
namespace Go.Proofs.Qxb6614033aFmt
open Go.RowKit Go.Extern.Stop Go.Stop Go.Extern

/-- What the calls lean on: fmt's text is F's; the sentinel lies where the program's text lays it. -/
structure Start (F : Interp) (a : Addr) (s : ByteArray) (w : World) : Prop where
  tape : F.answers w.tape
  var : w.cell? ⟨0, 0, none⟩ = some (.iface 53 (.pointer (some a)))
  text : w.cell? a = some (.string s)

theorem Start.below {F : Interp} {a : Addr} {s : ByteArray} {w w' : World} (h : Start F a s w) (hb : Below w.heap.size w w') : Start F a s w' :=
  ⟨by rw [hb.tape]; exact h.tape, (hb.cell (p := ⟨0, 0, none⟩) (World.block_lt_of_cell? _ _ h.var)).trans h.var, (hb.cell (World.block_lt_of_cell? _ _ h.text)).trans h.text⟩

theorem below2 (w : World) (o1 o2 : Obj) : Below w.heap.size w ((w.alloc o1).alloc o2) := by
  have h1 := (Below.refl w.heap.size w).alloc (Nat.le_refl _) o1
  exact h1.alloc h1.size o2
theorem below3 (w : World) (o1 o2 o3 : Obj) : Below w.heap.size w (((w.alloc o1).alloc o2).alloc o3) := by
  have h2 := below2 w o1 o2
  exact h2.alloc h2.size o3

set_option maxHeartbeats 1000000 in
theorem down_big (F : Interp) (a : Addr) (s : ByteArray) (t : Int) (b : Nat) (f : Value) (w : World) (hw : Start F a s w) (ht : 72057594037927935 < t) :
    Calls Tryf.prog 12 #[.int .u64 t, .float .f64 b, f] w fun e w' => (∃ p, e = .returned (.tuple #[.int .u64 0, .iface 48 p])) ∧ Below w.heap.size w w' := by
  have hd : decide (72057594037927935 < t) = true := decide_eq_true ht
  have hv := hw.var
  go_enter Tryf.func12, Tryf.ntmps12
  go_wp2_with fail
  refine (errA F t a s w.heap.size _ (by exact hw.tape) ?_ ?_ ?_).mono ?_
  · exact (World.cell?_alloc_old _ _ _ (Nat.ne_of_lt (World.block_lt_of_cell? _ _ hw.text))).trans hw.text
  · go_simp
  · go_simp
  rintro e w' ⟨⟨p, rfl⟩, hb⟩
  go_wp2
  go_ret2
  exact ⟨⟨p, rfl⟩, ((Below.refl _ _).alloc (Nat.le_refl _) _).trans (hb.mono (by simp))⟩

theorem exponent_N (N s : Int) (h0 : 0 ≤ N) (h1 : N < 340282366920938463463374607431768211456) (s0 : 0 ≤ s) (s1 : s ≤ 5000) (w : World) :
    Calls Tryf.prog 20 #[.agg #[.int .u64 (N / 18446744073709551616), .int .u64 (N % 18446744073709551616), .int .u64 s]] w fun e w' => e = .returned (.int .i64 (blen N - s)) ∧ w' = w.alloc (.cells #[.int .u64 (N / 18446744073709551616), .int .u64 (N % 18446744073709551616), .int .u64 s] 44) := by
  have := exponent_any (N / 18446744073709551616) (N % 18446744073709551616) s (by omega) (by omega) (by omega) (by omega) s0 s1 w
  rw [show N / 18446744073709551616 * 18446744073709551616 + N % 18446744073709551616 = N from by omega] at this
  exact this

theorem prod_bd (m t : Int) (m0 : 4503599627370496 ≤ m) (m1 : m < 9007199254740992) (t0 : 0 ≤ t) (t1 : t ≤ 72057594037927935) : 4503599627370496 ≤ m * (72057594037927936 - t) ∧ m * (72057594037927936 - t) < 649037107316853453566312041152512 := by
  have h1 : m * 1 ≤ m * (72057594037927936 - t) := Int.mul_le_mul_of_nonneg_left (by omega) (by omega)
  have h2 : m * (72057594037927936 - t) ≤ m * 72057594037927936 := Int.mul_le_mul_of_nonneg_left (by omega) (by omega)
  omega

set_option maxHeartbeats 1000000 in
theorem down_one (t : Int) (f : Value) (w : World) (ht : t ≤ 72057594037927935) :
    Calls Tryf.prog 12 #[.int .u64 t, .float .f64 4607182418800017408, f] w fun e w' => e = .returned (.tuple #[.int .u64 t, .nilIface]) ∧ w' = w := by
  have hd : decide (72057594037927935 < t) = false := decide_eq_false (by omega)
  have ho : FloatKind.f64.format.order 4607182418800017408 4607182418800017408 = some .eq := ord_eq _ (by omega)
  go_enter Tryf.func12, Tryf.ntmps12
  go_wp2
  go_ret2
  exact ⟨rfl, rfl⟩

set_option maxHeartbeats 1000000 in
theorem down_low (F : Interp) (a : Addr) (s : ByteArray) (t : Int) (b : Nat) (f : Value) (w : World) (hw : Start F a s w) (t0 : 0 ≤ t) (ht : t ≤ 72057594037927935) (h0 : 0 < b) (h1 : b < 4607182418800017408)
    (hN : blen (nm b * (72057594037927936 - t)) ≤ ns b) :
    Calls Tryf.prog 12 #[.int .u64 t, .float .f64 b, f] w fun e w' => (∃ p, e = .returned (.tuple #[.int .u64 0, .iface 48 p])) ∧ Below w.heap.size w w' := by
  have hd : decide (72057594037927935 < t) = false := decide_eq_false (by omega)
  have ho : FloatKind.f64.format.order b 4607182418800017408 = some .lt := ord_lt b _ (by omega) (by omega) h1
  have hv := hw.var
  have hsz : 0 < w.heap.size := World.block_lt_of_cell? _ _ hw.var
  have hm := nm_bd b h0
  have hs := ns_bd b
  go_enter Tryf.func12, Tryf.ntmps12
  go_wp2_with fail
  refine (binaryFraction_any b h0 (by omega) _).mono ?_
  rintro e w' ⟨rfl, rfl⟩
  go_wp2_with fail
  refine (mul64_any _ _ (by omega) (by omega) (by omega) (by omega) _).mono ?_
  rintro e w' ⟨rfl, rfl⟩
  have hp := prod_bd (nm b) t (by omega) (by omega) t0 ht
  generalize (nm b : Int) * (72057594037927936 - t) = N at *
  by_cases hz : t = 0
  · subst hz
    go_wp2_with fail
    refine (exponent_N N _ (by omega) (by omega) (by omega) (by omega) _).mono ?_
    rintro e w1 ⟨rfl, rfl⟩
    go_wp2_with fail
    refine (errB F b a s _ _ (by exact hw.tape) ?_ ?_ ?_).mono ?_
    rotate_right
    · rintro e w2 ⟨⟨p, rfl⟩, hb⟩
      go_wp2
      go_ret2
      exact ⟨⟨p, rfl⟩, (below3 _ _ _ _).trans (hb.mono (below3 _ _ _ _).size)⟩
    · have := World.block_lt_of_cell? _ _ hw.text
      exact ((below3 _ _ _ _).cell this).trans hw.text
    · go_simp
    · go_simp
  · have hz' : (t == 0) = false := beq_eq_false_iff_ne.2 hz
    clear hz
    go_wp2_with fail
    refine (exponent_N N _ (by omega) (by omega) (by omega) (by omega) _).mono ?_
    rintro e w1 ⟨rfl, rfl⟩
    go_wp2_with fail
    refine (errC F b t a s _ _ (by exact hw.tape) t0 ht ?_ ?_ ?_ ?_).mono ?_
    rotate_right
    · rintro e w2 ⟨⟨p, rfl⟩, hb⟩
      go_wp2
      go_ret2
      exact ⟨⟨p, rfl⟩, (below3 _ _ _ _).trans (hb.mono (below3 _ _ _ _).size)⟩
    · have := World.block_lt_of_cell? _ _ hw.text
      exact ((below3 _ _ _ _).cell this).trans hw.text
    · go_simp
    · go_simp
    · go_simp

set_option maxHeartbeats 1000000 in
theorem down_ok_hi (t : Int) (b : Nat) (w : World) (t0 : 0 ≤ t) (ht : t ≤ 72057594037927935) (h0 : 0 < b) (h1 : b < 4607182418800017408)
    (hN : ns b < blen (nm b * (72057594037927936 - t))) :
    Calls Tryf.prog 12 #[.int .u64 t, .float .f64 b, .func (.func 13) #[] #[]] w fun e w' => e = .returned (.tuple #[.int .u64 (nm b * (72057594037927936 - t) / 18446744073709551616), .nilIface]) ∧ Below w.heap.size w w' := by
  have hd : decide (72057594037927935 < t) = false := decide_eq_false (by omega)
  have ho : FloatKind.f64.format.order b 4607182418800017408 = some .lt := ord_lt b _ (by omega) (by omega) h1
  have hm := nm_bd b h0
  have hs := ns_bd b
  have hp := prod_bd (nm b) t (by omega) (by omega) t0 ht
  generalize hNe : (nm b : Int) * (72057594037927936 - t) = N at *
  go_enter Tryf.func12, Tryf.ntmps12
  go_wp2_with fail
  refine (binaryFraction_any b h0 (by omega) _).mono ?_
  rintro e w' ⟨rfl, rfl⟩
  go_wp2_with fail
  refine (mul64_any _ _ (by omega) (by omega) (by omega) (by omega) _).mono ?_
  rintro e w' ⟨rfl, rfl⟩
  go_wp2_with fail
  refine (exponent_N N _ (by omega) (by omega) (by omega) (by omega) _).mono ?_
  rintro e w1 ⟨rfl, rfl⟩
  go_wp2_with fail
  refine (roundHi_any _ _ _ _).mono ?_
  rintro e w2 ⟨rfl, rfl⟩
  go_wp2
  go_ret2
  exact ⟨rfl, below3 _ _ _ _⟩

set_option maxHeartbeats 1000000 in
theorem down_ok_lo (t : Int) (b : Nat) (w : World) (t0 : 0 ≤ t) (ht : t ≤ 72057594037927935) (h0 : 0 < b) (h1 : b < 4607182418800017408)
    (hN : ns b < blen (nm b * (72057594037927936 - t))) :
    Calls Tryf.prog 12 #[.int .u64 t, .float .f64 b, .func (.func 14) #[] #[]] w fun e w' => e = .returned (.tuple #[.int .u64 (nm b * (72057594037927936 - t) % 18446744073709551616), .nilIface]) ∧ Below w.heap.size w w' := by
  have hd : decide (72057594037927935 < t) = false := decide_eq_false (by omega)
  have ho : FloatKind.f64.format.order b 4607182418800017408 = some .lt := ord_lt b _ (by omega) (by omega) h1
  have hm := nm_bd b h0
  have hs := ns_bd b
  have hp := prod_bd (nm b) t (by omega) (by omega) t0 ht
  generalize hNe : (nm b : Int) * (72057594037927936 - t) = N at *
  go_enter Tryf.func12, Tryf.ntmps12
  go_wp2_with fail
  refine (binaryFraction_any b h0 (by omega) _).mono ?_
  rintro e w' ⟨rfl, rfl⟩
  go_wp2_with fail
  refine (mul64_any _ _ (by omega) (by omega) (by omega) (by omega) _).mono ?_
  rintro e w' ⟨rfl, rfl⟩
  go_wp2_with fail
  refine (exponent_N N _ (by omega) (by omega) (by omega) (by omega) _).mono ?_
  rintro e w1 ⟨rfl, rfl⟩
  go_wp2_with fail
  refine (roundLo_any _ _ _ _).mono ?_
  rintro e w2 ⟨rfl, rfl⟩
  go_wp2
  go_ret2
  exact ⟨rfl, below3 _ _ _ _⟩

set_option maxHeartbeats 1000000 in
theorem down_ok_s (t : Int) (b : Nat) (w : World) (t0 : 0 ≤ t) (ht : t ≤ 72057594037927935) (h0 : 0 < b) (h1 : b < 4607182418800017408)
    (hN : ns b < blen (nm b * (72057594037927936 - t))) :
    Calls Tryf.prog 12 #[.int .u64 t, .float .f64 b, .func (.func 15) #[] #[]] w fun e w' => e = .returned (.tuple #[.int .u64 (ns b + 56), .nilIface]) ∧ Below w.heap.size w w' := by
  have hd : decide (72057594037927935 < t) = false := decide_eq_false (by omega)
  have ho : FloatKind.f64.format.order b 4607182418800017408 = some .lt := ord_lt b _ (by omega) (by omega) h1
  have hm := nm_bd b h0
  have hs := ns_bd b
  have hp := prod_bd (nm b) t (by omega) (by omega) t0 ht
  generalize hNe : (nm b : Int) * (72057594037927936 - t) = N at *
  go_enter Tryf.func12, Tryf.ntmps12
  go_wp2_with fail
  refine (binaryFraction_any b h0 (by omega) _).mono ?_
  rintro e w' ⟨rfl, rfl⟩
  go_wp2_with fail
  refine (mul64_any _ _ (by omega) (by omega) (by omega) (by omega) _).mono ?_
  rintro e w' ⟨rfl, rfl⟩
  go_wp2_with fail
  refine (exponent_N N _ (by omega) (by omega) (by omega) (by omega) _).mono ?_
  rintro e w1 ⟨rfl, rfl⟩
  go_wp2_with fail
  refine (roundS_any _ _ _ _).mono ?_
  rintro e w2 ⟨rfl, rfl⟩
  go_wp2
  go_ret2
  exact ⟨rfl, below3 _ _ _ _⟩

end Go.Proofs.Qxb6614033aFmt
