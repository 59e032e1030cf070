/-
  math/bits.Mul64, math/bits.Len64, zzMul, zzLen64, zzBitLen, zzReduce, (fraction).exponent, the three round functions: by contracts.
-/
import Derived.Test.Qxb6614033aFmtRows
import Derived.WalkKit
import Derived.ProofKit
import Derived.OpenShut
import Derived.WalkSpells
import Derived.Laws.MathBits
import Derived.Laws.BitsAllLaws
namespace Go.Proofs.Qxb6614033aFmt
open Go.RowKit

theorem ret_int {k : IntKind} {a b : Int} (h : a = b) : Ending.returned (.int k a) = .returned (.int k b) := by rw [h]
theorem ret_pair {a b c d : Int} (h1 : a = c) (h2 : b = d) : Ending.returned (.tuple #[.int .u64 a, .int .u64 b]) = .returned (.tuple #[.int .u64 c, .int .u64 d]) := by rw [h1, h2]

theorem mul_hi (x y : Int) (hx0 : 0 ≤ x) (hx : x < 18446744073709551616) (hy0 : 0 ≤ y) (hy : y < 18446744073709551616) :
    IntKind.u64.wrap
            (IntKind.u64.wrap
                (IntKind.u64.wrap (x / 4294967296 * (y / 4294967296)) +
                  IntKind.u64.wrap
                      (IntKind.u64.wrap (x / 4294967296 * (y % 4294967296)) +
                        IntKind.u64.wrap (x % 4294967296 * (y % 4294967296)) / 4294967296) /
                    4294967296) +
              IntKind.u64.wrap
                  (bits BinOp.and IntKind.u64
                      (IntKind.u64.wrap
                        (IntKind.u64.wrap (x / 4294967296 * (y % 4294967296)) +
                          IntKind.u64.wrap (x % 4294967296 * (y % 4294967296)) / 4294967296))
                      4294967295 +
                    IntKind.u64.wrap (x % 4294967296 * (y / 4294967296))) /
                4294967296) = x * y / 18446744073709551616 := by
  rw [and_low32 _ (by rw [IntKind.wrap_u64]; omega) (by rw [IntKind.wrap_u64]; omega)]
  simp only [IntKind.wrap_u64]
  exact mul64_arith x y hx0 hx hy0 hy

set_option maxHeartbeats 1000000 in
theorem mul64_any (x y : Int) (hx0 : 0 ≤ x) (hx : x < 18446744073709551616) (hy0 : 0 ≤ y) (hy : y < 18446744073709551616) (w : World) :
    Calls Tryf.prog 19 #[.int .u64 x, .int .u64 y] w fun e w' => e = .returned (.tuple #[.int .u64 (x * y / 18446744073709551616), .int .u64 (x * y % 18446744073709551616)]) ∧ w' = w := by
  have hlx := and_low32 x hx0 hx
  have hly := and_low32 y hy0 hy
  go_enter Tryf.func19, Tryf.ntmps19
  go_wp2
  go_ret2
  exact ⟨ret_pair (mul_hi x y hx0 hx hy0 hy) (IntKind.wrap_u64 _), rfl⟩

set_option maxHeartbeats 1000000 in
theorem zzMul_any (x y : Int) (hx0 : 0 ≤ x) (hx : x < 18446744073709551616) (hy0 : 0 ≤ y) (hy : y < 18446744073709551616) (w : World) :
    Calls Tryf.prog 9 #[.int .u64 x, .int .u64 y] w fun e w' => e = .returned (.tuple #[.int .u64 (x * y / 18446744073709551616), .int .u64 (x * y % 18446744073709551616)]) ∧ w' = w := by
  have hlx := and_low32 x hx0 hx
  have hly := and_low32 y hy0 hy
  go_enter Tryf.func9, Tryf.ntmps9
  go_wp2
  go_ret2
  refine ⟨ret_pair ?_ (IntKind.wrap_u64 _), rfl⟩
  rw [← mul_hi x y hx0 hx hy0 hy, Int.add_comm (IntKind.u64.wrap (x % 4294967296 * (y / 4294967296)))]

/-- The number of binary digits of n. -/
def blen (n : Int) : Int := bitLen n.toNat

theorem blen_shift (x : Int) (b : Nat) (h0 : 0 ≤ x) (h : (2 : Int) ^ b ≤ x) : blen x = b + blen (x / 2 ^ b) := by
  obtain ⟨n, rfl⟩ := Int.eq_ofNat_of_zero_le h0
  have hp : 0 < 2 ^ b := Nat.two_pow_pos b
  have h' : 2 ^ b ≤ n := by
    have : ((2 ^ b : Nat) : Int) ≤ (n : Int) := by simpa using h
    omega
  have e : ((n : Int) / 2 ^ b).toNat = n / 2 ^ b := by
    have : (n : Int) / 2 ^ b = ((n / 2 ^ b : Nat) : Int) := by simp
    rw [this]; exact Int.toNat_natCast _
  unfold blen
  rw [e, Int.toNat_natCast, bitLen_shift n b (by have := Nat.div_pos h' hp; omega)]
  simp

theorem blen_zero : blen 0 = 0 := by unfold blen bitLen; simp
theorem blen_pos (x : Int) (h : 0 < x) : 0 < blen x := by
  unfold blen bitLen
  rw [if_neg (by omega)]; omega
theorem blen_half (x : Int) (h : 0 < x) : blen x = 1 + blen (x / 2) := by
  by_cases h1 : x = 1
  · subst h1; decide
  · have := blen_shift x 1 (by omega) (by omega)
    simpa using this
theorem blen_le (x : Int) (b : Nat) (h0 : 0 ≤ x) (h : x < 2 ^ b) : 0 ≤ blen x ∧ blen x ≤ b := by
  obtain ⟨n, rfl⟩ := Int.eq_ofNat_of_zero_le h0
  have h' : n < 2 ^ b := by
    have : (n : Int) < ((2 ^ b : Nat) : Int) := by simpa using h
    omega
  unfold blen bitLen
  rw [Int.toNat_natCast]
  split
  · omega
  · rename_i hn
    have := (Nat.log2_lt hn).2 h'
    omega
theorem blen_gt (x : Int) (b : Nat) (h : (2 : Int) ^ b ≤ x) : (b : Int) < blen x := by
  have hp : (0 : Int) < 2 ^ b := Int.pow_pos (by omega)
  have h1 : 1 ≤ x / 2 ^ b := Int.le_ediv_of_mul_le hp (by omega)
  rw [blen_shift x b (by omega) h]
  have := blen_pos (x / 2 ^ b) (by omega)
  omega

set_option maxHeartbeats 1000000 in
theorem zzLen_any (x : Int) (h0 : 0 ≤ x) (h1 : x < 18446744073709551616) (w : World) :
    Calls Tryf.prog 16 #[.int .u64 x] w fun e w' => e = .returned (.int .u64 (blen x)) ∧ w' = w := by
  have hb := blen_le x 64 h0 (by simpa using h1)
  go_enter Tryf.func16, Tryf.ntmps16
  go_wp2
  go_loop [0, 3] (fun y n => ∃ (v : Int) (k : Int), 0 ≤ v ∧ v ≤ x ∧ 0 ≤ k ∧ k + blen v = blen x ∧ y = .int .u64 v ∧ n = .int .u64 k) (fun y _ => (intOf y).toNat)
  case atStart => exact ⟨x, 0, h0, by omega, by omega, by omega, rfl, rfl⟩
  case round =>
    obtain ⟨v, k, hv0, hv1, hk, he, rfl, rfl⟩ := hrel
    have HE : Hid (k + blen v = blen x) := he
    by_cases hz : v = 0
    · subst hz
      rw [blen_zero] at he
      clear he
      go_wp2
      go_ret
      have := HE.out
      rw [blen_zero] at this
      exact ⟨ret_int (by omega), rfl⟩
    · have hne : (v != 0) = true := by rw [bne_iff_ne]; exact hz
      have hh := blen_half v (by omega)
      have HH : Hid (blen v = 1 + blen (v / 2)) := hh
      have hb2 := (blen_le (v / 2) 64 (by omega) (by omega)).1
      have hk2 : k ≤ 63 := by omega
      have hvp : 0 < v := by omega
      clear he hh hz hb2
      go_wp2
      go_round
      case rel => exact ⟨v / 2, k + 1, by omega, by omega, by omega, by have := HE.out; have := HH.out; omega, rfl, rfl⟩
      case measure => simp [intOf]; omega

set_option maxHeartbeats 1000000 in
theorem zzBitLen_any (hi lo : Int) (h0 : 0 ≤ hi) (h1 : hi < 18446744073709551616) (l0 : 0 ≤ lo) (l1 : lo < 18446744073709551616) (w : World) :
    Calls Tryf.prog 10 #[.int .u64 hi, .int .u64 lo] w fun e w' => e = .returned (.int .u64 (blen (hi * 18446744073709551616 + lo))) ∧ w' = w := by
  by_cases hz : hi = 0
  · subst hz
    go_enter Tryf.func10, Tryf.ntmps10
    go_wp2_with (go_at_call 16; refine (zzLen_any _ l0 l1 _).mono ?_; rintro e w' ⟨rfl, rfl⟩)
    go_ret
    exact ⟨ret_int (by simp), rfl⟩
  · have hne : (hi != 0) = true := by rw [bne_iff_ne]; exact hz
    have hb := blen_le hi 64 h0 (by simpa using h1)
    have HS : Hid (blen (hi * 18446744073709551616 + lo) = 64 + blen hi) := by
      have := blen_shift (hi * 18446744073709551616 + lo) 64 (by omega) (by omega)
      rw [show (hi * 18446744073709551616 + lo) / 2 ^ 64 = hi from by omega] at this
      exact this
    clear hz
    go_enter Tryf.func10, Tryf.ntmps10
    go_wp2_with (go_at_call 16; refine (zzLen_any _ h0 h1 _).mono ?_; rintro e w' ⟨rfl, rfl⟩)
    go_ret
    exact ⟨ret_int HS.out.symm, rfl⟩
/-- What 'zzReduce' computes: n halvings at the most. -/
def red : Nat → Int → Int → Int × Int × Nat
  | 0, hi, lo => (hi, lo, 0)
  | s + 1, hi, lo => if lo % 2 = 0 then red s (hi / 2) ((hi * 18446744073709551616 + lo) / 2 % 18446744073709551616) else (hi, lo, s + 1)

theorem red_bd (s : Nat) : ∀ (hi lo : Int), (red s hi lo).2.2 ≤ s := by
  induction s with
  | zero => intro hi lo; simp [red]
  | succ s ih =>
    intro hi lo
    simp only [red]
    split
    · have := ih (hi / 2) ((hi * 18446744073709551616 + lo) / 2 % 18446744073709551616); omega
    · simp

theorem ret_three {a b c d e f : Int} (h1 : a = d) (h2 : b = e) (h3 : c = f) : Ending.returned (.tuple #[.int .u64 a, .int .u64 b, .int .u64 c]) = .returned (.tuple #[.int .u64 d, .int .u64 e, .int .u64 f]) := by rw [h1, h2, h3]

theorem and1 (x : Int) (h0 : 0 ≤ x) (h1 : x < 18446744073709551616) : bits BinOp.and IntKind.u64 x 1 = x % 2 := by
  rw [u64_and x 1 h0 (by omega) (by omega) (by omega)]
  have : (x.toNat &&& (1 : Int).toNat) = x.toNat % 2 := Nat.and_two_pow_sub_one_eq_mod x.toNat 1
  rw [this]; omega

theorem lo_half (hi lo : Int) (l0 : 0 ≤ lo) (l1 : lo < 18446744073709551616) :
    bits BinOp.or IntKind.u64 (lo / 2) (IntKind.u64.wrap (hi * 9223372036854775808)) = (hi * 18446744073709551616 + lo) / 2 % 18446744073709551616 := by
  have e : IntKind.u64.wrap (hi * 9223372036854775808) = (hi % 2) * 9223372036854775808 := by rw [IntKind.wrap_u64]; omega
  rw [e, u64_or _ _ (by omega) (by omega) (by omega) (by omega), Nat.or_comm,
    nat_join 63 _ _ (by have : (2 : Nat) ^ 63 = 9223372036854775808 := by decide
                        rw [this]; omega) (by have : (2 : Nat) ^ 63 = 9223372036854775808 := by decide
                                              rw [this]; omega)]
  omega

set_option maxHeartbeats 1000000 in
theorem zzReduce_any (hi lo : Int) (s : Nat) (h0 : 0 ≤ hi) (h1 : hi < 18446744073709551616) (l0 : 0 ≤ lo) (l1 : lo < 18446744073709551616) (s1 : s ≤ 5000) (hne : hi ≠ 0 ∨ lo ≠ 0) (w : World) :
    Calls Tryf.prog 11 #[.int .u64 hi, .int .u64 lo, .int .u64 s] w fun e w' => e = .returned (.tuple #[.int .u64 (red s hi lo).1, .int .u64 (red s hi lo).2.1, .int .u64 (red s hi lo).2.2]) ∧ w' = w := by
  have key : (hi = 0 ∧ (lo == 0) = false) ∨ (hi == 0) = false := by
    by_cases h : hi = 0
    · exact .inl ⟨h, beq_eq_false_iff_ne.2 (by omega)⟩
    · exact .inr (beq_eq_false_iff_ne.2 h)
  clear hne
  generalize hR : red s hi lo = R
  have HR : Hid (red s hi lo = R) := hR
  clear hR
  rcases key with ⟨rfl, hz⟩ | hz
  all_goals
    go_enter Tryf.func11, Tryf.ntmps11
    go_wp2
    go_loop [0, 1, 2] (fun a b c => ∃ (x y : Int) (k : Nat), 0 ≤ x ∧ x < 18446744073709551616 ∧ 0 ≤ y ∧ y < 18446744073709551616 ∧ k ≤ 5000 ∧ red k x y = R ∧ a = .int .u64 x ∧ b = .int .u64 y ∧ c = .int .u64 k) (fun _ _ c => (intOf c).toNat)
    case atStart => exact ⟨_, _, s, by omega, by omega, by omega, by omega, s1, HR.out, rfl, rfl, rfl⟩
    case round =>
      obtain ⟨x, y, k, hx0, hx1, hy0, hy1, hk, hr, rfl, rfl, rfl⟩ := hrel
      have HK : Hid (red k x y = R) := hr
      clear hr
      have ha := and1 y hy0 hy1
      match k, HK, hk with
      | 0, HK, _ =>
        go_wp2
        go_ret3
        have e := HK.out
        simp only [red] at e
        subst e
        exact ⟨rfl, rfl⟩
      | k + 1, HK, hk =>
        by_cases hm : y % 2 = 0
        · have hm' : (y % 2 == 0) = true := beq_iff_eq.2 hm
          have HM : Hid (y % 2 = 0) := hm
          have hl := lo_half x y hy0 hy1
          have hl2 : 0 ≤ (x * 18446744073709551616 + y) / 2 % 18446744073709551616 := by omega
          have hl3 : (x * 18446744073709551616 + y) / 2 % 18446744073709551616 < 18446744073709551616 := by omega
          clear hm
          go_wp2
          go_round
          case rel =>
            refine ⟨x / 2, (x * 18446744073709551616 + y) / 2 % 18446744073709551616, k, by omega, by omega, hl2, hl3, by omega, ?_, rfl, ?_, by go_num⟩
            · rw [← HK.out, red, if_pos HM.out]
            · rfl
          case measure => simp [intOf]
        · have hm' : (y % 2 == 0) = false := beq_eq_false_iff_ne.2 hm
          have HM : Hid (¬ y % 2 = 0) := hm
          clear hm
          go_wp2
          go_ret3
          have e := HK.out
          rw [red, if_neg HM.out] at e
          subst e
          exact ⟨ret_three rfl rfl (by simp), rfl⟩

end Go.Proofs.Qxb6614033aFmt
