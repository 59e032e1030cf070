/-
  The walks of 'appendHex', '(Threshold).Append', '(Threshold).String', by contracts.
-/
import Derived.Test.Qxb6614033aFmtRows
import Derived.Test.Qxb6614033aFmtPlain
import Derived.WalkKit
import Derived.ProofKit
import Derived.OpenShut
import Derived.ShutString
import Derived.WalkSpells
import Derived.Maps.AppendAt
import Derived.Laws.BitsAllLaws
import Derived.Laws.BytesArg
import Derived.Deep.QuietTactic
import Derived.BigQuiet
namespace Go.Proofs.Qxb6614033aFmt
open Go.ChangeShapes Go.WideShapes Go.ChangeAt Go.RowKit

theorem Tryf.info5 : (Tryf.prog.info? 5).map (fun i => (i.zero, i.size, i.bytes)) = some (some (.int .u8 0), 1, 1) := by kernel_rfl

theorem and15 (x : Int) (h0 : 0 ≤ x) (h1 : x ≤ 18446744073709551615) : bits BinOp.and IntKind.u64 x 15 = x % 16 := by
  rw [u64_and x 15 h0 (by omega) (by omega) (by omega)]
  have : (x.toNat &&& (15 : Int).toNat) = x.toNat % 16 := Nat.and_two_pow_sub_one_eq_mod x.toNat 4
  rw [this]; omega

theorem digits_at (x : Int) (h0 : 0 ≤ x) (h1 : x < 16) (p : x.toNat < (⟨#[48, 49, 50, 51, 52, 53, 54, 55, 56, 57, 97, 98, 99, 100, 101, 102]⟩ : ByteArray).size) :
    (((⟨#[48, 49, 50, 51, 52, 53, 54, 55, 56, 57, 97, 98, 99, 100, 101, 102]⟩ : ByteArray)[x.toNat]'p).toNat : Int) = dig x := by
  obtain ⟨n, rfl⟩ := Int.eq_ofNat_of_zero_le h0
  have hn : n < 16 := by omega
  clear h0 h1
  match n, hn, p with
  | 0, _, _ | 1, _, _ | 2, _, _ | 3, _, _ | 4, _, _ | 5, _, _ | 6, _, _ | 7, _, _ | 8, _, _ | 9, _, _ | 10, _, _ | 11, _, _ | 12, _, _ | 13, _, _ | 14, _, _ | 15, _, _ => rfl
  | n + 16, h, _ => omega

theorem digit_bd (v : Int) (s : Nat) (h0 : 0 ≤ v) (h1 : v ≤ 18446744073709551615) : 0 ≤ v / 2 ^ s ∧ v / 2 ^ s ≤ 18446744073709551615 := by
  have hp : (0 : Int) < 2 ^ s := Int.pow_pos (by omega)
  refine ⟨Int.ediv_nonneg h0 (by omega), Int.le_trans (Int.ediv_le_self _ h0) h1⟩

set_option maxHeartbeats 400000 in
theorem hex_any (B m n : Nat) (v : Int) (d : Value) (xs : List Value) (w : World) (hm : m ≤ 100) (hn : n ≤ 14) (h0 : 0 ≤ v) (h1 : v ≤ 18446744073709551615) (hB : B ≤ w.heap.size) (hown : w.ownsRow B 5 1 d m xs) :
    Calls Tryf.prog 32 #[d, .int .u64 v, .int .i64 n] w fun e w' => ∃ d', e = .returned d' ∧ w'.ownsRow B 5 1 d' (m + n) (xs ++ (hexs v n n).map (Value.int .u8)) ∧ Below B w w' := by
  obtain ⟨i0, hi, hz0, hz1, hz2⟩ := info_parts Tryf.info5
  go_enter Tryf.func32, Tryf.ntmps32
  go_wp2
  go_loopw [0, 7] (fun dd i wr => ∃ k : Nat, k ≤ n ∧ i = .int .i64 ((n : Int) - 1 - k) ∧ wr.ownsRow B 5 1 dd (m + k) (xs ++ (hexs v n k).map (Value.int .u8)) ∧ Below B w wr)
    (fun _ i _ => (intOf i + 1).toNat)
  case atStart => exact ⟨0, Nat.zero_le _, by simp, by simpa [hexs] using hown, Below.refl _ _⟩
  case round =>
    obtain ⟨k, hk, rfl, ho, hb⟩ := hrel
    by_cases hlt : k < n
    · obtain ⟨x, hx⟩ : ∃ x, x = v / 2 ^ (4 * (n - 1 - k)) % 16 := ⟨_, rfl⟩
      have hx0 : 0 ≤ x := by omega
      have hx1 : x < 16 := by omega
      obtain ⟨g0, g1⟩ := digit_bd v (4 * (n - 1 - k)) h0 h1
      have hbits : bits BinOp.and IntKind.u64 (v / 2 ^ (4 * (n - 1 - k))) 15 = x := by rw [and15 _ g0 g1, hx]
      have HX : Hid (x = v / 2 ^ (4 * (n - 1 - k)) % 16) := hx
      clear hx g0 g1
      have hsz := hb.size
      go_wp2_with (at_builtin; refine wpList_append_own _ rfl _ _ 56 rfl B 5 i0 (.int .u8 0) 1 1 Tryf.underlying56 hi hz0 hz1 hz2 rfl (by decide) _ _ _ rfl (ho.alloc _) ⟨wr.heap.size, 0, none⟩ 1 1 [.int .u8 _] rfl rfl (cell_one_new _ _ _) (fun x hx => by simp at hx; subst hx; rfl) (by unfold maxLen; omega) (by omega) (by simp; omega) ?_; intro v' w1 hown' hgrow _)
      go_roundw
      case rel =>
        refine ⟨k + 1, by omega, by go_num, ?_, ?_⟩
        · rw [digits_at x hx0 hx1, HX.out] at hown'
          simpa [hexs, Nat.add_assoc] using hown'
        · exact (hb.alloc (by omega) _).grown hgrow (by simp; omega) (fun g hg => (ho.lt g hg).1)
      case measure => simp [intOf]; omega
    · obtain rfl : k = n := by omega
      go_wp2
      go_ret
      exact ⟨_, rfl, ho, hb⟩

theorem div_step (t : Int) (k : Nat) : t / 2 ^ (4 * k) / 2 ^ 4 = t / 2 ^ (4 * (k + 1)) := by
  rw [Int.ediv_ediv_of_nonneg (Int.le_of_lt (pow_pos' _)), ← Int.pow_add, show 4 * k + 4 = 4 * (k + 1) from by omega]

theorem mod_step (t : Int) (k : Nat) (h : t % 2 ^ (4 * k) = 0) (hd : t / 2 ^ (4 * k) % 16 = 0) : t % 2 ^ (4 * (k + 1)) = 0 := by
  obtain ⟨y, rfl⟩ := Int.dvd_of_emod_eq_zero h
  rw [Int.mul_ediv_cancel_left _ (by have := pow_pos' (4 * k); omega)] at hd
  obtain ⟨z, rfl⟩ := Int.dvd_of_emod_eq_zero hd
  rw [pow4, ← Int.mul_assoc, Int.mul_emod_right]

theorem div_pos (t : Int) (k : Nat) (h0 : 0 < t) (h1 : t ≤ 72057594037927935) (h : t % 2 ^ (4 * k) = 0) : 0 < t / 2 ^ (4 * k) ∧ k ≤ 13 := by
  obtain ⟨y, rfl⟩ := Int.dvd_of_emod_eq_zero h
  have hp := pow_pos' (4 * k)
  rw [Int.mul_ediv_cancel_left _ (by omega)]
  have hy : 0 < y := by
    rcases Int.lt_trichotomy 0 y with k | k | k
    · exact k
    · subst k; simp at h0
    · have := Int.mul_neg_of_pos_of_neg hp k; omega
  refine ⟨hy, ?_⟩
  by_cases hk : k ≤ 13
  · exact hk
  · exfalso
    have h2 : (2 : Int) ^ (4 * k) = 2 ^ 56 * 2 ^ (4 * k - 56) := by rw [← Int.pow_add]; congr 1; omega
    have h3 := pow_pos' (4 * k - 56)
    have h4 : (2 : Int) ^ 56 * 1 ≤ 2 ^ 56 * 2 ^ (4 * k - 56) := Int.mul_le_mul_of_nonneg_left (by omega) (by decide)
    have h5 : (2 : Int) ^ (4 * k) * 1 ≤ 2 ^ (4 * k) * y := Int.mul_le_mul_of_nonneg_left (by omega) (by omega)
    have h6 : (2 : Int) ^ 56 = 72057594037927936 := by decide
    omega

set_option maxHeartbeats 400000 in
theorem append_zero (B : Nat) (d : Value) (w : World) (hB : B ≤ w.heap.size) (hown : w.ownsRow B 5 1 d 0 []) :
    Calls Tryf.prog 27 #[.int .u64 0, d] w fun e w' => ∃ d' L, e = .returned d' ∧ Txt 0 L ∧ w'.ownsRow B 5 1 d' L.length (L.map (Value.int .u8)) ∧ Below B w w' := by
  obtain ⟨i0, hi, hz0, hz1, hz2⟩ := info_parts Tryf.info5
  go_enter Tryf.func27, Tryf.ntmps27
  go_wp2_with (at_builtin; refine wpList_append_own _ rfl _ _ 56 rfl B 5 i0 (.int .u8 0) 1 1 Tryf.underlying56 hi hz0 hz1 hz2 rfl (by decide) _ _ _ rfl (hown.alloc _) ⟨w.heap.size, 0, none⟩ 1 1 [.int .u8 _] rfl rfl (cell_one_new _ _ _) (fun x hx => by simp at hx; subst hx; rfl) (by unfold maxLen; omega) (by omega) (by simp; omega) ?_; intro v' w1 hown' hgrow _)
  go_ret
  exact ⟨_, [48], rfl, txt_zero, by simpa using hown', ((Below.refl B w).alloc (by omega) _).grown hgrow (by simp; omega) (fun g hg => (hown.lt g hg).1)⟩

set_option maxHeartbeats 400000 in
theorem append_pos (B : Nat) (t : Int) (d : Value) (w : World) (h0 : 0 < t) (h1 : t ≤ 72057594037927935) (hB : B ≤ w.heap.size) (hown : w.ownsRow B 5 1 d 0 []) :
    Calls Tryf.prog 27 #[.int .u64 t, d] w fun e w' => ∃ d' L, e = .returned d' ∧ Txt t L ∧ w'.ownsRow B 5 1 d' L.length (L.map (Value.int .u8)) ∧ Below B w w' := by
  have hne : (t == 0) = false := beq_eq_false_iff_ne.2 (by omega)
  go_enter Tryf.func27, Tryf.ntmps27
  go_wp2
  go_loop [5, 6] (fun n v => ∃ k : Nat, k ≤ 13 ∧ t % 2 ^ (4 * k) = 0 ∧ n = .int .i64 (14 - (k : Int)) ∧ v = .int .u64 (t / 2 ^ (4 * k)))
    (fun n _ => (intOf n).toNat)
  case atStart => exact ⟨0, by omega, by simp, rfl, by simp⟩
  case round =>
    obtain ⟨k, hk, hm, rfl, rfl⟩ := hrel
    have HM : Hid (t % 2 ^ (4 * k) = 0) := hm
    obtain ⟨x, hx⟩ : ∃ x, x = t / 2 ^ (4 * k) := ⟨_, rfl⟩
    obtain ⟨g0, g1⟩ := digit_bd t (4 * k) (by omega) (by omega)
    clear hm
    rw [← hx] at g0 g1 ⊢
    have HX : Hid (x = t / 2 ^ (4 * k)) := hx
    have hbits : bits BinOp.and IntKind.u64 x 15 = x % 16 := and15 _ g0 g1
    clear hx
    by_cases hz : x % 16 = 0
    · have hz' : (x % 16 == 0) = true := beq_iff_eq.2 hz
      have HZ : Hid (x % 16 = 0) := hz
      clear hz
      go_wp2
      go_round
      case rel =>
        have hm' := mod_step t k HM.out (by rw [← HX.out]; exact HZ.out)
        refine ⟨k + 1, (div_pos t (k + 1) h0 h1 hm').2, hm', by go_num, ?_⟩
        rw [HX.out, ← div_step]
        rfl
      case measure => simp [intOf]; omega
    · have hz' : (x % 16 == 0) = false := beq_eq_false_iff_ne.2 hz
      go_wp2_with fail
      rw [show (14 - (14 - k)) = k from by omega, show (14 - (k : Int)) = ((14 - k : Nat) : Int) from by omega]
      refine (hex_any B 0 (14 - k) (t / 2 ^ (4 * k)) d [] w (by omega) (by omega) (by rw [← HX.out]; exact g0) (by rw [← HX.out]; exact g1) hB hown).mono ?_
      rintro e w' ⟨d', rfl, ho, hb⟩
      go_wp2
      go_ret
      refine ⟨_, hexs (t / 2 ^ (4 * k)) (14 - k) (14 - k), rfl, txt_hexs t k hk HM.out (by rw [← HX.out]; exact hz), ?_, hb⟩
      rw [hexs_length]
      simpa using ho

theorem append_any (B : Nat) (t : Int) (d : Value) (w : World) (h0 : 0 ≤ t) (h1 : t ≤ 72057594037927935) (hB : B ≤ w.heap.size) (hown : w.ownsRow B 5 1 d 0 []) :
    Calls Tryf.prog 27 #[.int .u64 t, d] w fun e w' => ∃ d' L, e = .returned d' ∧ Txt t L ∧ w'.ownsRow B 5 1 d' L.length (L.map (Value.int .u8)) ∧ Below B w w' := by
  by_cases hz : t = 0
  · subst hz; exact append_zero B d w hB hown
  · exact append_pos B t d w (by omega) h1 hB hown

set_option maxHeartbeats 400000 in
theorem string_any (t : Int) (w : World) (h0 : 0 ≤ t) (h1 : t ≤ 72057594037927935) :
    Calls Tryf.prog 23 #[.int .u64 t] w fun e w' => ∃ L, e = .returned (.string (strOfNums L)) ∧ Txt t L ∧ Below w.heap.size w w' := by
  have hmk : ∀ w : World, (Instr.makeSlice 56 (.int .i64 0) (.int .i64 14)).run Tryf.prog w = .ok (.slice (some ⟨w.heap.size, 0, none⟩) 0 14) (w.alloc (.cells (Array.replicate 14 (.int .u8 0)) 5)) := fun _ => by kernel_rfl
  go_enter Tryf.func23, Tryf.ntmps23
  go_wp2_with fail
  refine (append_any w.heap.size t _ _ h0 h1 (by simp) (World.ownsRow_made w _ 14 (Nat.le_refl _) (by decide) (by simp))).mono ?_
  rintro e w1 ⟨d', L, rfl, hT, ho, hb⟩
  obtain ⟨g, cap, rfl⟩ : ∃ g cap, d' = .slice (some ⟨g, 0, none⟩) L.length cap := by
    rcases ho.2 with ⟨_, h⟩ | ⟨g, cap, _, h, _⟩
    · obtain ⟨n, n1, _, hl, _⟩ := hT; omega
    · exact ⟨g, cap, h⟩
  have hcv := run_convert_bytes_arg (P := Tryf.prog) w1 56 5 Tryf.underlying56 Tryf.underlying5 g 0 L.length cap L rfl (fun i hi => by
    have h := ho.cells (g := g) rfl i (.int .u8 (L.getD i 0)) (by simp [List.getElem?_eq_getElem hi])
    rw [add_plain] at h
    exact h) 9 Tryf.underlying9
  have hT' : Hid (Txt t L) := hT
  clear hT
  go_wp2
  go_ret
  exact ⟨L, rfl, hT'.out, ((Below.refl _ _).alloc (Nat.le_refl _) _).trans hb⟩


end Go.Proofs.Qxb6614033aFmt
