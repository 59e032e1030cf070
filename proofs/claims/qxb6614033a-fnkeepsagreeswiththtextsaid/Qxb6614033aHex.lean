/-
  The walks of 'appendHex', '(Threshold).Append', '(Threshold).String', 'zzTextAtLeast', by contracts.
-/
import Derived.Test.Qxb6614033aRows
import Derived.Test.Qxb6614033aPlain
import Derived.WalkKit
import Derived.ProofKit
import Derived.OpenShut
import Derived.ShutString
import Derived.WalkSpells
import Derived.Maps.AppendAt
import Derived.Laws.BitsAllLaws
import Derived.Laws.BytesArg
import Derived.Deep.QuietTactic
import Derived.BigQuiet
namespace Go.Proofs.Qxb6614033a
open Go.ChangeShapes Go.WideShapes Go.ChangeAt Go.RowKit

theorem Try.info5 : (Try.prog.info? 5).map (fun i => (i.zero, i.size, i.bytes)) = some (some (.int .u8 0), 1, 1) := by kernel_rfl

theorem and15 (x : Int) (h0 : 0 ≤ x) (h1 : x ≤ 18446744073709551615) : bits BinOp.and IntKind.u64 x 15 = x % 16 := by
  rw [u64_and x 15 h0 (by omega) (by omega) (by omega)]
  have : (x.toNat &&& (15 : Int).toNat) = x.toNat % 16 := Nat.and_two_pow_sub_one_eq_mod x.toNat 4
  rw [this]; omega

theorem digits_at (x : Int) (h0 : 0 ≤ x) (h1 : x < 16) (p : x.toNat < (⟨#[48, 49, 50, 51, 52, 53, 54, 55, 56, 57, 97, 98, 99, 100, 101, 102]⟩ : ByteArray).size) :
    (((⟨#[48, 49, 50, 51, 52, 53, 54, 55, 56, 57, 97, 98, 99, 100, 101, 102]⟩ : ByteArray)[x.toNat]'p).toNat : Int) = dig x := by
  obtain ⟨n, rfl⟩ := Int.eq_ofNat_of_zero_le h0
  have hn : n < 16 := by omega
  clear h0 h1
  match n, hn, p with
  | 0, _, _ | 1, _, _ | 2, _, _ | 3, _, _ | 4, _, _ | 5, _, _ | 6, _, _ | 7, _, _ | 8, _, _ | 9, _, _ | 10, _, _ | 11, _, _ | 12, _, _ | 13, _, _ | 14, _, _ | 15, _, _ => rfl
  | n + 16, h, _ => omega

theorem digit_bd (v : Int) (s : Nat) (h0 : 0 ≤ v) (h1 : v ≤ 18446744073709551615) : 0 ≤ v / 2 ^ s ∧ v / 2 ^ s ≤ 18446744073709551615 := by
  have hp : (0 : Int) < 2 ^ s := Int.pow_pos (by omega)
  refine ⟨Int.ediv_nonneg h0 (by omega), Int.le_trans (Int.ediv_le_self _ h0) h1⟩

set_option maxHeartbeats 400000 in
theorem hex_any (B m n : Nat) (v : Int) (d : Value) (xs : List Value) (w : World) (hm : m ≤ 100) (hn : n ≤ 14) (h0 : 0 ≤ v) (h1 : v ≤ 18446744073709551615) (hB : B ≤ w.heap.size) (hown : w.ownsRow B 5 1 d m xs) :
    Calls Try.prog 9 #[d, .int .u64 v, .int .i64 n] w fun e w' => ∃ d', e = .returned d' ∧ w'.ownsRow B 5 1 d' (m + n) (xs ++ (hexs v n n).map (Value.int .u8)) ∧ Below B w w' := by
  obtain ⟨i0, hi, hz0, hz1, hz2⟩ := info_parts Try.info5
  go_enter Try.func9, Try.ntmps9
  go_wp2
  go_loopw [0, 7] (fun dd i wr => ∃ k : Nat, k ≤ n ∧ i = .int .i64 ((n : Int) - 1 - k) ∧ wr.ownsRow B 5 1 dd (m + k) (xs ++ (hexs v n k).map (Value.int .u8)) ∧ Below B w wr)
    (fun _ i _ => (intOf i + 1).toNat)
  case atStart => exact ⟨0, Nat.zero_le _, by simp, by simpa [hexs] using hown, Below.refl _ _⟩
  case round =>
    obtain ⟨k, hk, rfl, ho, hb⟩ := hrel
    by_cases hlt : k < n
    · obtain ⟨x, hx⟩ : ∃ x, x = v / 2 ^ (4 * (n - 1 - k)) % 16 := ⟨_, rfl⟩
      have hx0 : 0 ≤ x := by omega
      have hx1 : x < 16 := by omega
      obtain ⟨g0, g1⟩ := digit_bd v (4 * (n - 1 - k)) h0 h1
      have hbits : bits BinOp.and IntKind.u64 (v / 2 ^ (4 * (n - 1 - k))) 15 = x := by rw [and15 _ g0 g1, hx]
      have HX : Hid (x = v / 2 ^ (4 * (n - 1 - k)) % 16) := hx
      clear hx g0 g1
      have hsz := hb.size
      go_wp2_with (at_builtin; refine wpList_append_own _ rfl _ _ 29 rfl B 5 i0 (.int .u8 0) 1 1 Try.underlying29 hi hz0 hz1 hz2 rfl (by decide) _ _ _ rfl (ho.alloc _) ⟨wr.heap.size, 0, none⟩ 1 1 [.int .u8 _] rfl rfl (cell_one_new _ _ _) (fun x hx => by simp at hx; subst hx; rfl) (by unfold maxLen; omega) (by omega) (by simp; omega) ?_; intro v' w1 hown' hgrow _)
      go_roundw
      case rel =>
        refine ⟨k + 1, by omega, by go_num, ?_, ?_⟩
        · rw [digits_at x hx0 hx1, HX.out] at hown'
          simpa [hexs, Nat.add_assoc] using hown'
        · exact (hb.alloc (by omega) _).grown hgrow (by simp; omega) (fun g hg => (ho.lt g hg).1)
      case measure => simp [intOf]; omega
    · obtain rfl : k = n := by omega
      go_wp2
      go_ret
      exact ⟨_, rfl, ho, hb⟩

end Go.Proofs.Qxb6614033a
