/-
  The walks of '(Threshold).Append', '(Threshold).String', by contracts.
-/
import Derived.Test.Qxb6614033aHex
namespace Go.Proofs.Qxb6614033a
open Go.ChangeShapes Go.WideShapes Go.ChangeAt Go.RowKit

theorem div_step (t : Int) (k : Nat) : t / 2 ^ (4 * k) / 2 ^ 4 = t / 2 ^ (4 * (k + 1)) := by
  rw [Int.ediv_ediv_of_nonneg (Int.le_of_lt (pow_pos' _)), ← Int.pow_add, show 4 * k + 4 = 4 * (k + 1) from by omega]

theorem mod_step (t : Int) (k : Nat) (h : t % 2 ^ (4 * k) = 0) (hd : t / 2 ^ (4 * k) % 16 = 0) : t % 2 ^ (4 * (k + 1)) = 0 := by
  obtain ⟨y, rfl⟩ := Int.dvd_of_emod_eq_zero h
  rw [Int.mul_ediv_cancel_left _ (by have := pow_pos' (4 * k); omega)] at hd
  obtain ⟨z, rfl⟩ := Int.dvd_of_emod_eq_zero hd
  rw [pow4, ← Int.mul_assoc, Int.mul_emod_right]

theorem div_pos (t : Int) (k : Nat) (h0 : 0 < t) (h1 : t ≤ 72057594037927935) (h : t % 2 ^ (4 * k) = 0) : 0 < t / 2 ^ (4 * k) ∧ k ≤ 13 := by
  obtain ⟨y, rfl⟩ := Int.dvd_of_emod_eq_zero h
  have hp := pow_pos' (4 * k)
  rw [Int.mul_ediv_cancel_left _ (by omega)]
  have hy : 0 < y := by
    rcases Int.lt_trichotomy 0 y with k | k | k
    · exact k
    · subst k; simp at h0
    · have := Int.mul_neg_of_pos_of_neg hp k; omega
  refine ⟨hy, ?_⟩
  by_cases hk : k ≤ 13
  · exact hk
  · exfalso
    have h2 : (2 : Int) ^ (4 * k) = 2 ^ 56 * 2 ^ (4 * k - 56) := by rw [← Int.pow_add]; congr 1; omega
    have h3 := pow_pos' (4 * k - 56)
    have h4 : (2 : Int) ^ 56 * 1 ≤ 2 ^ 56 * 2 ^ (4 * k - 56) := Int.mul_le_mul_of_nonneg_left (by omega) (by decide)
    have h5 : (2 : Int) ^ (4 * k) * 1 ≤ 2 ^ (4 * k) * y := Int.mul_le_mul_of_nonneg_left (by omega) (by omega)
    have h6 : (2 : Int) ^ 56 = 72057594037927936 := by decide
    omega

set_option maxHeartbeats 400000 in
theorem append_zero (B : Nat) (d : Value) (w : World) (hB : B ≤ w.heap.size) (hown : w.ownsRow B 5 1 d 0 []) :
    Calls Try.prog 8 #[.int .u64 0, d] w fun e w' => ∃ d' L, e = .returned d' ∧ Txt 0 L ∧ w'.ownsRow B 5 1 d' L.length (L.map (Value.int .u8)) ∧ Below B w w' := by
  obtain ⟨i0, hi, hz0, hz1, hz2⟩ := info_parts Try.info5
  go_enter Try.func8, Try.ntmps8
  go_wp2_with (at_builtin; refine wpList_append_own _ rfl _ _ 29 rfl B 5 i0 (.int .u8 0) 1 1 Try.underlying29 hi hz0 hz1 hz2 rfl (by decide) _ _ _ rfl (hown.alloc _) ⟨w.heap.size, 0, none⟩ 1 1 [.int .u8 _] rfl rfl (cell_one_new _ _ _) (fun x hx => by simp at hx; subst hx; rfl) (by unfold maxLen; omega) (by omega) (by simp; omega) ?_; intro v' w1 hown' hgrow _)
  go_ret
  exact ⟨_, [48], rfl, txt_zero, by simpa using hown', ((Below.refl B w).alloc (by omega) _).grown hgrow (by simp; omega) (fun g hg => (hown.lt g hg).1)⟩

set_option maxHeartbeats 400000 in
theorem append_pos (B : Nat) (t : Int) (d : Value) (w : World) (h0 : 0 < t) (h1 : t ≤ 72057594037927935) (hB : B ≤ w.heap.size) (hown : w.ownsRow B 5 1 d 0 []) :
    Calls Try.prog 8 #[.int .u64 t, d] w fun e w' => ∃ d' L, e = .returned d' ∧ Txt t L ∧ w'.ownsRow B 5 1 d' L.length (L.map (Value.int .u8)) ∧ Below B w w' := by
  have hne : (t == 0) = false := beq_eq_false_iff_ne.2 (by omega)
  go_enter Try.func8, Try.ntmps8
  go_wp2
  go_loop [5, 6] (fun n v => ∃ k : Nat, k ≤ 13 ∧ t % 2 ^ (4 * k) = 0 ∧ n = .int .i64 (14 - (k : Int)) ∧ v = .int .u64 (t / 2 ^ (4 * k)))
    (fun n _ => (intOf n).toNat)
  case atStart => exact ⟨0, by omega, by simp, rfl, by simp⟩
  case round =>
    obtain ⟨k, hk, hm, rfl, rfl⟩ := hrel
    have HM : Hid (t % 2 ^ (4 * k) = 0) := hm
    obtain ⟨x, hx⟩ : ∃ x, x = t / 2 ^ (4 * k) := ⟨_, rfl⟩
    obtain ⟨g0, g1⟩ := digit_bd t (4 * k) (by omega) (by omega)
    clear hm
    rw [← hx] at g0 g1 ⊢
    have HX : Hid (x = t / 2 ^ (4 * k)) := hx
    have hbits : bits BinOp.and IntKind.u64 x 15 = x % 16 := and15 _ g0 g1
    clear hx
    by_cases hz : x % 16 = 0
    · have hz' : (x % 16 == 0) = true := beq_iff_eq.2 hz
      have HZ : Hid (x % 16 = 0) := hz
      clear hz
      go_wp2
      go_round
      case rel =>
        have hm' := mod_step t k HM.out (by rw [← HX.out]; exact HZ.out)
        refine ⟨k + 1, (div_pos t (k + 1) h0 h1 hm').2, hm', by go_num, ?_⟩
        rw [HX.out, ← div_step]
        rfl
      case measure => simp [intOf]; omega
    · have hz' : (x % 16 == 0) = false := beq_eq_false_iff_ne.2 hz
      go_wp2_with fail
      rw [show (14 - (14 - k)) = k from by omega, show (14 - (k : Int)) = ((14 - k : Nat) : Int) from by omega]
      refine (hex_any B 0 (14 - k) (t / 2 ^ (4 * k)) d [] w (by omega) (by omega) (by rw [← HX.out]; exact g0) (by rw [← HX.out]; exact g1) hB hown).mono ?_
      rintro e w' ⟨d', rfl, ho, hb⟩
      go_wp2
      go_ret
      refine ⟨_, hexs (t / 2 ^ (4 * k)) (14 - k) (14 - k), rfl, txt_hexs t k hk HM.out (by rw [← HX.out]; exact hz), ?_, hb⟩
      rw [hexs_length]
      simpa using ho

theorem append_any (B : Nat) (t : Int) (d : Value) (w : World) (h0 : 0 ≤ t) (h1 : t ≤ 72057594037927935) (hB : B ≤ w.heap.size) (hown : w.ownsRow B 5 1 d 0 []) :
    Calls Try.prog 8 #[.int .u64 t, d] w fun e w' => ∃ d' L, e = .returned d' ∧ Txt t L ∧ w'.ownsRow B 5 1 d' L.length (L.map (Value.int .u8)) ∧ Below B w w' := by
  by_cases hz : t = 0
  · subst hz; exact append_zero B d w hB hown
  · exact append_pos B t d w (by omega) h1 hB hown

set_option maxHeartbeats 400000 in
theorem string_any (t : Int) (w : World) (h0 : 0 ≤ t) (h1 : t ≤ 72057594037927935) :
    Calls Try.prog 6 #[.int .u64 t] w fun e w' => ∃ L, e = .returned (.string (strOfNums L)) ∧ Txt t L ∧ Below w.heap.size w w' := by
  have hmk : ∀ w : World, (Instr.makeSlice 29 (.int .i64 0) (.int .i64 14)).run Try.prog w = .ok (.slice (some ⟨w.heap.size, 0, none⟩) 0 14) (w.alloc (.cells (Array.replicate 14 (.int .u8 0)) 5)) := fun _ => by kernel_rfl
  go_enter Try.func6, Try.ntmps6
  go_wp2_with fail
  refine (append_any w.heap.size t _ _ h0 h1 (by simp) (World.ownsRow_made w _ 14 (Nat.le_refl _) (by decide) (by simp))).mono ?_
  rintro e w1 ⟨d', L, rfl, hT, ho, hb⟩
  obtain ⟨g, cap, rfl⟩ : ∃ g cap, d' = .slice (some ⟨g, 0, none⟩) L.length cap := by
    rcases ho.2 with ⟨_, h⟩ | ⟨g, cap, _, h, _⟩
    · obtain ⟨n, n1, _, hl, _⟩ := hT; omega
    · exact ⟨g, cap, h⟩
  have hcv := run_convert_bytes_arg (P := Try.prog) w1 29 5 Try.underlying29 Try.underlying5 g 0 L.length cap L rfl (fun i hi => by
    have h := ho.cells (g := g) rfl i (.int .u8 (L.getD i 0)) (by simp [List.getElem?_eq_getElem hi])
    rw [add_plain] at h
    exact h) 9 Try.underlying9
  have hT' : Hid (Txt t L) := hT
  clear hT
  go_wp2
  go_ret
  exact ⟨L, rfl, hT'.out, ((Below.refl _ _).alloc (Nat.le_refl _) _).trans hb⟩

theorem nums_len (a : ByteArray) : (a.data.toList.map fun c => (c.toNat : Int)).length = a.size := by simp
theorem nums_get (a : ByteArray) (k : Nat) (h : k < a.size) : (a.data.toList.map fun c => (c.toNat : Int))[k]? = some ((a[k]).toNat : Int) := by
  rw [List.getElem?_map, List.getElem?_eq_getElem (by simpa using h)]; rfl

set_option maxHeartbeats 400000 in
theorem least_any (a b : ByteArray) (w : World) (ha : a.size ≤ 1000) (_hb : b.size ≤ 1000) :
    Calls Try.prog 7 #[.string a, .string b] w fun e w' => ∃ res, e = .returned (.bool res) ∧ Verdict (a.data.toList.map fun c => (c.toNat : Int)) (b.data.toList.map fun c => (c.toNat : Int)) res ∧ ∃ n, w' = w.drewN n := by
  go_enter Try.func7, Try.ntmps7
  go_wp2
  go_loopw [5] (fun i wr => ∃ k : Nat, k ≤ a.size ∧ k ≤ b.size ∧ i = .int .i64 k ∧ (∀ j, j < k → (a.data.toList.map fun c => (c.toNat : Int))[j]? = (b.data.toList.map fun c => (c.toNat : Int))[j]?) ∧ ∃ n, wr = w.drewN n)
    (fun i _ => a.size - (intOf i).toNat)
  case atStart => exact ⟨0, Nat.zero_le _, Nat.zero_le _, rfl, fun j hj => by omega, 0, rfl⟩
  case round =>
    obtain ⟨k, hka, hkb, rfl, hj, n, rfl⟩ := hrel
    have HJ : Hid (∀ j, j < k → (a.data.toList.map fun c => (c.toNat : Int))[j]? = (b.data.toList.map fun c => (c.toNat : Int))[j]?) := hj
    clear hj
    by_cases hla : k < a.size
    · by_cases hlb : k < b.size
      · have hla' : (k : Int) < (a.size : Int) := by omega
        have hlb' : (k : Int) < (b.size : Int) := by omega
        by_cases he : a[k] = b[k]
        · have he' : (((a[k]).toNat : Int) != ((b[k]).toNat : Int)) = false := by rw [he]; simp
          have HE : Hid (a[k] = b[k]) := he
          clear he
          go_wp2
          go_quiet (fail)
          go_wp2
          go_roundw
          case rel =>
            refine ⟨k + 1, by omega, by omega, by go_num, fun j hj => ?_, n + nq, rfl⟩
            by_cases e : j = k
            · subst e; rw [nums_get a j hla, nums_get b j hlb, HE.out]
            · exact HJ.out j (by omega)
          case measure => simp [intOf]; omega
        · have he' : (((a[k]).toNat : Int) != ((b[k]).toNat : Int)) = true := by
            rw [bne_iff_ne]; intro h; apply he; exact UInt8.toNat_inj.1 (by omega)
          have HE : Hid (¬ a[k] = b[k]) := he
          clear he
          go_wp2
          go_quiet (fail)
          go_wp2
          go_quiet (fail)
          go_wp2
          go_ret
          refine ⟨_, rfl, ⟨k, by rw [nums_len]; exact hka, by rw [nums_len]; exact hkb, HJ.out, .inl ⟨_, _, nums_get a k hla, nums_get b k hlb, by rw [bne_iff_ne] at he'; exact he', ?_⟩⟩, ?_⟩
          · rw [decide_eq_decide]; omega
          · exact ⟨_, by rw [World.drewN_drewN, World.drewN_drewN]⟩
      · have hd : decide ((k : Int) < (b.size : Int)) = false := decide_eq_false (by omega)
        go_wp2
        go_ret
        refine ⟨_, rfl, ⟨k, by rw [nums_len]; exact hka, by rw [nums_len]; exact hkb, HJ.out, .inr ⟨.inr (by rw [nums_len]; omega), ?_⟩⟩, n, rfl⟩
        rw [nums_len, nums_len]
    · have hd : decide ((k : Int) < (a.size : Int)) = false := decide_eq_false (by omega)
      go_wp2
      go_ret
      refine ⟨_, rfl, ⟨k, by rw [nums_len]; exact hka, by rw [nums_len]; exact hkb, HJ.out, .inr ⟨.inl (by rw [nums_len]; omega), ?_⟩⟩, n, rfl⟩
      rw [nums_len, nums_len]

end Go.Proofs.Qxb6614033a
