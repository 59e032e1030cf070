/-
  FnWriteSetWholeAgainstTwoPieces, walked: a parser that translates or does not.
-/
import Derived.Test.Qxb6613280aFmtLaw8
namespace Go.Proofs.Qxb6613280aFmt
open Go.ChangeShapes Go.WideShapes Go.ChangeAt Go.RowKit Go.Extern.Stop Go.Stop Go.Extern

set_option maxHeartbeats 8000000 in
set_option maxRecDepth 100000 in
theorem law8_main (F : Interp) (tr : Bool) (r c : Int) (l : List UInt8) (pos kI : Int) (a1 a2 : Option Addr) (c1 c2 : Nat) (xs ys : List Int) (w : World) (hF : F.answers w.tape) (ht : w.cell? ⟨2, 15, none⟩ = some (.int .u8 4)) (hfx : ∀ x ∈ xs, -2147483648 ≤ x ∧ x ≤ 2147483647) (hfy : ∀ x ∈ ys, -2147483648 ≤ x ∧ x ≤ 2147483647)
    (h1 : Ints a1 xs w) (h2 : Ints a2 ys w) (z1 : a1 = none → c1 = 0) (z2 : a2 = none → c2 = 0) (hl : ys.length = xs.length) (hm : xs.length ≤ 65536) (hL : l.length ≤ 524288) (r0 : 0 ≤ r) (r1 : r ≤ 100000) :
    Calls Tryf.prog 3 #[.int .i64 r, .int .i64 c, .bool tr, .string ⟨l.toArray⟩, .int .i64 pos, .slice a1 xs.length c1, .slice a2 xs.length c2, .int .i64 kI] w fun e w' => e = .returned (.bool true) ∧ Below w.heap.size w w' := by
  have hfit := fit_zip8 xs ys hfx hfy
  obtain ⟨n, hN⟩ : ∃ n, n = xs.length := ⟨_, rfl⟩
  have Z := fun a1 a2 c1 c2 w h1 h2 => zzRunes a1 a2 c1 c2 xs ys w h1 h2 hl (by omega)
  have Y := fun a1 a2 => zzBytes8 r c tr ⟨l.toArray⟩ pos kI a1 a2 n n c1 c2 w
  have BOn := fun w => budget_on r c l w (by omega)
  have BOf := fun w => budget_off r c l w (by omega)
  obtain ⟨st, hst⟩ : ∃ st : ByteArray, st = ⟨l.toArray⟩ := ⟨_, rfl⟩
  have hsz : st.size = l.length := by rw [hst]; rfl
  have HST : Hid (st = ⟨l.toArray⟩) := hst
  rw [← hst] at Y BOn BOf ⊢
  clear hst
  obtain ⟨L, hLL⟩ : ∃ L, L = l.length := ⟨_, rfl⟩
  have HLL : Hid (L = l.length) := hLL
  rw [← hLL] at hsz hL
  clear hLL
  rw [← hN] at hl hm Z ⊢
  have HN : Hid (n = xs.length) := hN
  clear hN
  have t1 : ¬ (65536 : Int) < n := by omega
  have t2 : ¬ (524288 : Int) < L := by omega
  have t3 : ((n : Int) != n) = false := by simp
  have t5 : decide (r < 0) = false := decide_eq_false (by omega)
  have t6 : decide (100000 < r) = false := decide_eq_false (by omega)
  go_enter Tryf.func3, Tryf.ntmps3
  go_wp2_with fail
  refine (Y a1 a2).mono ?_
  clear Y
  rintro e w1 ⟨rfl | rfl, hw⟩
  rotate_left
  · obtain rfl := hw.symm
    go_wp2
    go_ret
    exact ⟨rfl, Below.refl _ _⟩
  obtain rfl := hw.symm
  clear hw
  go_upto_if 68 with fail
  go_cut [5, 17] (fun s5 _ wx => ∃ b d, s5 = .slice b n d ∧ Good b d n xs wx ∧ Ints a2 ys wx ∧ Below w.heap.size w wx)
  case first =>
    as_aux_lemma =>
      cases a1 with
      | none =>
        obtain rfl := z1 rfl
        clear z1
        go_wp2_with fail
        go_meet
        exact ⟨none, 0, rfl, ⟨h1, .inl ⟨rfl, by rw [HN.out, h1.none_nil]; rfl, rfl⟩⟩, h2, Below.refl _ _⟩
      | some a1 =>
        obtain ⟨cs1, hcs1, mk1⟩ := make_ints n (by omega) w
        have ka : Keeps (fun _ => False) w (w.alloc (.cells cs1 21)) := (Keeps.refl _ w).alloc _
        obtain ⟨wb, cp1, J1, kb⟩ := copy_ints 3 w.heap.size n c1 (some a1) xs cs1 (w.alloc (.cells cs1 21)) (heap_alloc_new w _) hcs1 (h1.kept ka (fun _ _ _ h => h)) HN.out
        have belb : Below w.heap.size w wb := (ka.below (Nat.le_refl _) (fun _ h => h.elim)).trans (kb.below (by simp) (fun k hk => by omega))
        go_wp2_with fail
        go_meet
        exact ⟨_, n, rfl, ⟨J1, .inr ⟨_, rfl, rfl⟩⟩, h2.below belb, belb⟩
  case rest =>
  obtain ⟨b1, d1, rfl, G1, h2c, bel1⟩ := hcut
  obtain ⟨wA, hwA⟩ : ∃ wA, wA = wc := ⟨_, rfl⟩
  subst hwA
  go_upto_if 77 with fail
  go_cut [6, 18] (fun s6 _ wx => ∃ b d, s6 = .slice b n d ∧ Good b d n ys wx ∧ Good b1 d1 n xs wx ∧ Below w.heap.size w wx)
  case first =>
    as_aux_lemma =>
      cases a2 with
      | none =>
        obtain rfl := z2 rfl
        clear z2
        go_wp2_with fail
        go_meet
        exact ⟨none, 0, rfl, ⟨h2c, .inl ⟨rfl, by rw [← hl, h2c.none_nil]; rfl, rfl⟩⟩, G1, bel1⟩
      | some a2 =>
        obtain ⟨cs2, hcs2, mk2⟩ := make_ints n (by omega) wA
        have kc : Keeps (fun _ => False) wA (wA.alloc (.cells cs2 21)) := (Keeps.refl _ wA).alloc _
        obtain ⟨wd, cp2, J2, kd⟩ := copy_ints 3 wA.heap.size n c2 (some a2) ys cs2 (wA.alloc (.cells cs2 21)) (heap_alloc_new wA _) hcs2 (h2c.kept kc (fun _ _ _ h => h)) hl.symm
        have beld' : Below wA.heap.size wA wd := (kc.below (Nat.le_refl _) (fun _ h => h.elim)).trans (kd.below (by simp) (fun k hk => by omega))
        have beld : Below w.heap.size w wd := bel1.trans (beld'.mono bel1.size)
        go_wp2_with fail
        go_meet
        exact ⟨_, n, rfl, ⟨J2, .inr ⟨_, rfl, rfl⟩⟩, ⟨G1.1.below beld', G1.2⟩, beld⟩
  case rest =>
  obtain ⟨b2, d2, rfl, G2, G1', bel2⟩ := hcut
  obtain ⟨wB, hwB⟩ : ∃ wB, wB = wc := ⟨_, rfl⟩
  subst hwB
  clear G1 h2c bel1
  go_upto_if 85 with fail
  go_cut [] (fun wx => wx = wB ∧ ((tr = true ∧ 0 ≤ c ∧ c ≤ 8388608) ∨ (tr = false ∧ c = 0)))
  case first =>
    as_aux_lemma =>
      cases tr with
      | true =>
        by_cases hc0 : c < 0
        · have C0 : decide (c < 0) = true := decide_eq_true hc0
          go_wp2
          go_ret
          exact ⟨rfl, bel2⟩
        have C0 : decide (c < 0) = false := decide_eq_false hc0
        by_cases hc1 : 8388608 < c
        · have C1 : decide (8388608 < c) = true := decide_eq_true hc1
          go_wp2
          go_ret
          exact ⟨rfl, bel2⟩
        have C1 : decide (8388608 < c) = false := decide_eq_false hc1
        go_wp2_with fail
        go_meet
        exact ⟨rfl, .inl ⟨rfl, by omega, by omega⟩⟩
      | false =>
        by_cases hc0 : c = 0
        · have C0 : (c != 0) = false := by simpa using hc0
          go_wp2_with fail
          go_meet
          exact ⟨rfl, .inr ⟨rfl, hc0⟩⟩
        · have C0 : (c != 0) = true := by simpa using hc0
          go_wp2
          go_ret
          exact ⟨rfl, bel2⟩
  case rest =>
  obtain ⟨hwc, HC0⟩ := hcut
  obtain rfl := hwc.symm
  have HCC : Hid ((tr = true ∧ 0 ≤ c ∧ c ≤ 8388608) ∨ (tr = false ∧ c = 0)) := HC0
  clear HC0
  by_cases k0 : kI < 0
  · have K0 : decide (kI < 0) = true := decide_eq_true k0
    go_wp2
    go_ret
    exact ⟨rfl, bel2⟩
  have K0 : decide (kI < 0) = false := decide_eq_false k0
  by_cases k1 : (n : Int) < kI
  · have K1 : decide ((n : Int) < kI) = true := decide_eq_true k1
    go_wp2
    go_ret
    exact ⟨rfl, bel2⟩
  have K1 : decide ((n : Int) < kI) = false := decide_eq_false k1
  obtain ⟨k, hk⟩ : ∃ k : Nat, kI = k := ⟨kI.toNat, by omega⟩
  subst hk
  have hkn : k ≤ n := by omega
  obtain ⟨k2, hk2⟩ : ∃ k2 : Nat, k + k2 = n := ⟨n - k, by omega⟩
  clear k0 k1
  go_wp2_with fail
  refine (Z _ _ _ _ _ G1'.1 G2.1).mono ?_
  rintro e wC ⟨rfl, hR0, hbC⟩
  have G1c : Good b1 d1 n xs wC := ⟨G1'.1.below hbC, G1'.2⟩
  have G2c : Good b2 d2 n ys wC := ⟨G2.1.below hbC, G2.2⟩
  clear K0 K1
  have Z1 := fun a1 a2 c1 c2 w h1 h2 => zzRunes a1 a2 c1 c2 (xs.take k) (ys.take k) w h1 h2 (by rw [List.length_take, List.length_take, hl, ← HN.out]) (by rw [List.length_take, ← HN.out]; omega)
  have Z2 := fun a1 a2 c1 c2 w h1 h2 => zzRunes a1 a2 c1 c2 (xs.drop k) (ys.drop k) w h1 h2 (by rw [List.length_drop, List.length_drop, hl, ← HN.out]) (by rw [List.length_drop, ← HN.out]; omega)
  rw [show (xs.take k).length = k by rw [List.length_take, ← HN.out]; omega] at Z1
  rw [show (xs.drop k).length = k2 by rw [List.length_drop, ← HN.out]; omega] at Z2
  have hsub : n - k = k2 := by omega
  have hcb1 : (k : Int) ≤ (n : Int) := by omega
  go_upto_region 30 with fail
  go_cut [21] (fun s21 wx => ∃ R1, s21 = .slice (some ⟨R1, 0, none⟩) k k ∧ RunesAt R1 ((xs.take k).zip (ys.take k)) wx ∧ Below wC.heap.size wC wx ∧ R1 ≤ wx.heap.size)
  case first =>
    as_aux_lemma =>
      have I1 : Ints b1 (xs.take k) wC.drew := ⟨(G1c.1.take k).at_⟩
      have I2 : Ints b2 (ys.take k) wC.drew := ⟨(G2c.1.take k).at_⟩
      have S1 := slice_head b1 d1 n k G1c.2 hkn
      have S2 := slice_head b2 d2 n k G2c.2 hkn
      clear Z2
      go_region_with (go_at_call 6; refine (Z1 _ _ _ _ _ I1 I2).mono ?_; rintro e w' ⟨rfl, hR1, hbb⟩)
      all_goals (go_wp2_with fail; go_meet; exact ⟨_, rfl, hR1, ((Below.refl _ wC).drew).trans hbb, hbb.size⟩)
  case rest =>
  obtain ⟨R1, rfl, hR1, hbD, hR1s⟩ := hcut
  obtain ⟨wD, hwD⟩ : ∃ wD, wD = wc := ⟨_, rfl⟩
  subst hwD
  have G1d : Good b1 d1 n xs wD := ⟨G1c.1.below hbD, G1c.2⟩
  have G2d : Good b2 d2 n ys wD := ⟨G2c.1.below hbD, G2c.2⟩
  clear Z1 G1c G2c
  go_upto_region 31 with fail
  go_cut [22] (fun s22 wx => ∃ R2, s22 = .slice (some ⟨R2, 0, none⟩) k2 k2 ∧ RunesAt R2 ((xs.drop k).zip (ys.drop k)) wx ∧ Below wD.heap.size wD wx ∧ R2 ≤ wx.heap.size)
  case first =>
    as_aux_lemma =>
      obtain ⟨e1, f1, I1', S1⟩ := slice_tail b1 d1 n k k2 xs wD G1d.1 HN.out.symm G1d.2 hk2
      obtain ⟨e2, f2, I2', S2⟩ := slice_tail b2 d2 n k k2 ys wD G2d.1 hl G2d.2 hk2
      have I1 : Ints e1 (xs.drop k) wD.drew := ⟨I1'.at_⟩
      have I2 : Ints e2 (ys.drop k) wD.drew := ⟨I2'.at_⟩
      clear I1' I2'
      go_region_with (go_at_call 6; refine (Z2 _ _ _ _ _ I1 I2).mono ?_; rintro e w' ⟨rfl, hR2, hbb⟩)
      all_goals (go_wp2_with fail; go_meet; exact ⟨_, rfl, hR2, ((Below.refl _ wD).drew).trans hbb, hbb.size⟩)
  case rest =>
  obtain ⟨R2, rfl, hR2, hbE, hR2E⟩ := hcut
  obtain ⟨wE, hwE⟩ : ∃ wE, wE = wc := ⟨_, rfl⟩
  subst hwE
  have hR0 := hR0.kept (Keeps.of_below (S := fun _ => False) hbD) (fun h => h)
  have hR0 := hR0.kept (Keeps.of_below (S := fun _ => False) hbE) (fun h => h)
  have hR1 := hR1.kept (Keeps.of_below (S := fun _ => False) hbE) (fun h => h)
  have bel5 : Below w.heap.size w wE := ((bel2.trans (hbC.mono bel2.size)).trans (hbD.mono (Nat.le_trans bel2.size hbC.size))).trans (hbE.mono (Nat.le_trans (Nat.le_trans bel2.size hbC.size) hbD.size))
  have hR0s : wB.heap.size < wE.heap.size + 1 := by have := hbC.size; have := hbD.size; have := hbE.size; omega
  have hR1E : R1 ≤ wE.heap.size := Nat.le_trans hR1s hbE.size
  clear Z Z2 G1d G2d G1' G2 hR1s
  rcases HCC.out with ⟨htr, hc0, hc1⟩ | ⟨htr, hc0⟩
  · as_aux_lemma =>
      subst htr
      obtain ⟨pr, hpr0⟩ : ∃ pr, pr = 400 + n * 32 := ⟨_, rfl⟩
      obtain ⟨q1, hq10⟩ : ∃ q1, q1 = 400 + k * 32 := ⟨_, rfl⟩
      obtain ⟨q2, hq20⟩ : ∃ q2, q2 = 400 + k2 * 32 := ⟨_, rfl⟩
      obtain ⟨pr2, hpr20⟩ : ∃ pr2, pr2 = 800 + n * 32 := ⟨_, rfl⟩
      have HPR : Hid (pr = 400 + n * 32) := hpr0
      have HQ1 : Hid (q1 = 400 + k * 32) := hq10
      have HQ2 : Hid (q2 = 400 + k2 * 32) := hq20
      have hpr : 400 + (n : Int) * 32 = pr := by omega
      have hpr2 : 800 + (n : Int) * 32 = pr2 := by omega
      have hqq : (q1 : Int) + q2 = pr + 400 := by omega
      have HPP2 : Hid ((pr2 : Int) = pr + 400) := by
        show (pr2 : Int) = pr + 400
        omega
      have hprb : pr ≤ 3000000 := by omega
      have hq1b : q1 ≤ pr := by omega
      have hq2b : q2 ≤ pr := by omega
      clear hpr0 hq10 hq20 hpr20
      have Hz0 : (xs.zip ys).length = n := by rw [List.length_zip, hl, ← HN.out]; omega
      have Hz1 : ((xs.take k).zip (ys.take k)).length = k := by rw [List.length_zip, List.length_take, List.length_take, hl, ← HN.out]; omega
      have Hz2 : ((xs.drop k).zip (ys.drop k)).length = k2 := by rw [List.length_zip, List.length_drop, List.length_drop, hl, ← HN.out]; omega
      have hf1 : Fit ((xs.take k).zip (ys.take k)) := fit_zip8 _ _ (fun x hx => hfx x (List.mem_of_mem_take hx)) (fun x hx => hfy x (List.mem_of_mem_take hx))
      have hf2 : Fit ((xs.drop k).zip (ys.drop k)) := fit_zip8 _ _ (fun x hx => hfx x (List.mem_of_mem_drop hx)) (fun x hx => hfy x (List.mem_of_mem_drop hx))
      clear hfx hfy
      generalize xs.zip ys = z0 at hR0 hfit Hz0
      generalize (xs.take k).zip (ys.take k) = zt at hR1 hf1 Hz1
      generalize (xs.drop k).zip (ys.drop k) = zd at hR2 hf2 Hz2
      have X0 := fun R w ht hR => zzSyntax_any R z0 w ht hfit hR (by omega)
      have X1 := fun R w ht hR => zzSyntax_any R zt w ht hf1 hR (by omega)
      have X2 := fun R w ht hR => zzSyntax_any R zd w ht hf2 hR (by omega)
      rw [Hz0] at X0
      rw [Hz1] at X1
      rw [Hz2] at X2
      have l0 := syn_len z0
      have l1 := syn_len zt
      have l2 := syn_len zd
      rw [Hz0] at l0
      rw [Hz1] at l1
      rw [Hz2] at l2
      obtain ⟨t0, e0⟩ : ∃ t, syn z0 = t := ⟨_, rfl⟩
      obtain ⟨tt, e1⟩ : ∃ t, syn zt = t := ⟨_, rfl⟩
      obtain ⟨td, e2⟩ : ∃ t, syn zd = t := ⟨_, rfl⟩
      rw [e0] at l0 X0
      rw [e1] at l1 X1
      rw [e2] at l2 X2
      have E0 : Hid (syn z0 = t0) := e0
      have E1 : Hid (syn zt = tt) := e1
      have E2 : Hid (syn zd = td) := e2
      clear e0 e1 e2
      have lt0 : t0.length ≤ 2000000 := by omega
      have lt1 : tt.length ≤ 2000000 := by omega
      have lt2 : td.length ≤ 2000000 := by omega
      obtain ⟨S0, s0⟩ : ∃ S : ByteArray, S = ⟨t0.toArray⟩ := ⟨_, rfl⟩
      obtain ⟨S1, s1⟩ : ∃ S : ByteArray, S = ⟨tt.toArray⟩ := ⟨_, rfl⟩
      obtain ⟨S2, s2⟩ : ∃ S : ByteArray, S = ⟨td.toArray⟩ := ⟨_, rfl⟩
      rw [← s0] at X0
      rw [← s1] at X1
      rw [← s2] at X2
      have U0 : S0.size = t0.length := by rw [s0]; rfl
      have U1 : S1.size = tt.length := by rw [s1]; rfl
      have U2 : S2.size = td.length := by rw [s2]; rfl
      have T0 : Hid ((⟨(l ++ t0).toArray⟩ : ByteArray) = st ++ S0) := by
        show _ = _
        rw [s0, HST.out]; exact cat_text l t0
      have T1 : Hid ((⟨((l ++ tt) ++ td).toArray⟩ : ByteArray) = st ++ S1 ++ S2) := by
        show _ = _
        rw [s1, s2, HST.out, ← cat_text, ← cat_text]
      have B0 : ((S0.size : Int) == 0) = false := by rw [U0]; simp; intro h; rw [h] at l0; simp at l0
      have N0 : ¬ 9223372036854775807 < st.size + S0.size := by rw [hsz, U0]; omega
      have N1 : ¬ 9223372036854775807 < st.size + S1.size := by rw [hsz, U1]; omega
      have N2 : ¬ 9223372036854775807 < st.size + S1.size + S2.size := by rw [hsz, U1, U2]; omega
      have hll : l.length ≤ 524288 := by rw [← HLL.out]; exact hL
      have HE : Hid (wE.cell? ⟨2, 15, none⟩ = some (.int .u8 4)) := (bel5.cell (p := ⟨2, 15, none⟩) (World.block_lt_of_cell? _ _ ht)).trans ht
      have h2E : 2 < wE.heap.size := World.block_lt_of_cell? _ _ HE.out
      clear s0 s1 s2 U0 U1 U2 l0 l1 l2
      have hbBE : wB.heap.size ≤ wE.heap.size := by omega
      go_wp2_with fail
      refine (BOn wE).mono ?_
      rintro e w6 ⟨Pw, p0, v0, rfl, hPw, hPwl, hpw, hbw, hb6⟩
      go_wp2_with fail
      refine (BOn w6).mono ?_
      rintro e w7 ⟨Pp, p1, v1, rfl, hPp, hPpl, hpp, hbp, hb7⟩
      have k67 : Keeps (fun _ => False) w6 w7 := Keeps.of_below hb7
      have hpw7 := hpw.kept k67 (fun h => h)
      have hbw7 := hbw.kept k67 (fun h => h) (fun _ _ h => h)
      have hF7 : F.answers w7.tape := by rw [hb7.tape, hb6.tape, bel5.tape]; exact hF
      have bel7 : Below wE.heap.size wE w7 := hb6.trans (hb7.mono hb6.size)
      have s67 := hb7.size
      have sE6 := hb6.size
      have hv0 := hbw.base
      have hv1 := hbp.base
      clear hpw hbw hb6 hb7 BOf BOn k67
      have kE7 : Keeps (fun _ => False) wE w7 := Keeps.of_below bel7
      by_cases ho : 100000 < r + (n : Int)
      · have D1 : decide (100000 < r + (n : Int)) = true := decide_eq_true ho
        as_aux_lemma =>
          go_wp2_with fail
          refine (on_step8 F wE.heap.size Pw wE.heap.size _ n pr p0 v0 z0 t0 r c pos l w7 HPR.out Hz0 E0.out hF7 hpw7 hbw7 (by omega) bel7.size r0 (by omega) hc0 (by omega) (by omega) hfit (hR0.kept kE7 (fun h => h)) (kE7.cell HE.out (fun h => h)) (by omega) (by omega)).mono ?_
          rintro e w8 ⟨pa, va, la, ca, hpw8, hbw8, k8, hva, he⟩
          rcases he with ⟨_, ⟨q, rfl⟩, eca, ela⟩ | ⟨hbad, _⟩ | ⟨hbad, _⟩
          rotate_left
          · exact absurd hbad (by omega)
          · exact absurd hbad (by omega)
          obtain rfl := eca.symm
          obtain rfl := ela.symm
          have hpp8 := hpp.kept k8 (by rintro (e | e | e) <;> first | omega | (have := (hv0 _ e).2; omega))
          have hbp8 := hbp.kept k8 (by rintro (e | e | e) <;> first | omega | (have := (hv0 _ e).2; omega)) (fun j hj => by have h1 := hv1 j hj; rintro (e | e | e) <;> first | omega | (have := (hv0 _ e).2; omega))
          have bel8 : Below wE.heap.size wE w8 := bel7.trans (k8.below bel7.size (by rintro j (rfl | rfl | e) <;> first | omega | exact (hv0 _ e).1))
          have s78 := k8.size
          go_wp2_with fail
          refine (zzRanges Pw _ _ _ _ hpw8).mono ?_
          rintro e wz ⟨rfl, hw⟩
          obtain rfl := hw.symm
          clear hw
          go_wp2_with fail
          refine (zzCost Pw _ _ _ _ hpw8).mono ?_
          rintro e wz ⟨rfl, hw⟩
          obtain rfl := hw.symm
          clear hw
          have kE8 : Keeps (fun _ => False) wE w8 := Keeps.of_below bel8
          go_wp2_with fail
          refine (X0 _ w8 (kE8.cell HE.out (fun h => h)) (hR0.kept kE8 (fun h => h))).mono ?_
          rintro e w9 ⟨rfl, hb9⟩
          have k9 : Keeps (fun _ => False) w8 w9 := Keeps.of_below hb9
          have hpw9 := hpw8.kept k9 (fun h => h)
          have hbw9 := hbw8.kept k9 (fun h => h) (fun _ _ h => h)
          have hpp9 := hpp8.kept k9 (fun h => h)
          have hbp9 := hbp8.kept k9 (fun h => h) (fun _ _ h => h)
          have ZT := zzText _ Pw _ _ _ _ _ _ w9 hpw9 hbw9
          rw [← HST.out] at ZT
          go_wp2_with fail
          refine ZT.mono ?_
          clear ZT
          rintro e wa ⟨rfl, k10⟩
          have hva' : ∀ j, va.ownBlock = some j → j < w6.heap.size ∨ w7.heap.size ≤ j := fun j hj => by
            rcases hva j hj with h | h
            · exact .inl (hv0 j h).2
            · exact .inr h
          have hpwa := hpw9.kept k10 (fun e => (hpw9.ne hbw9) (.inr e))
          have hppa := hpp9.kept k10 (fun e => by rcases hva' _ e with h | h <;> omega)
          have hbpa := hbp9.kept k10 (fun e => by rcases hva' _ e with h | h <;> omega) (fun j hj e => by have h1 := hv1 j hj; rcases hva' _ e with h | h <;> omega)
          have bela : Below wE.heap.size wE wa := (bel8.trans (hb9.mono bel8.size)).trans (k10.below (Nat.le_trans bel8.size hb9.size) (fun j hj => (hbw9.base j hj).1))
          have s6a : w6.heap.size ≤ wa.heap.size := by have := hb9.size; have := k10.size; omega
          have hFa : F.answers wa.tape := by rw [bela.tape, bel5.tape]; exact hF
          have kEa : Keeps (fun _ => False) wE wa := Keeps.of_below bela
          clear k8 k9 k10 hva hva' hpw8 hbw8 hpw9 hbw9 hpp8 hbp8 hpp9 hbp9 kE8 hpp hbp hpw7 hbw7 kE7
          go_wp2_with fail
          refine (on_step8 F w6.heap.size Pp w6.heap.size _ k q1 p1 v1 zt tt r c pos l wa HQ1.out Hz1 E1.out hFa hppa hbpa (by omega) s6a r0 (by omega) hc0 (by omega) (by omega) hf1 (hR1.kept kEa (fun h => h)) (kEa.cell HE.out (fun h => h)) (by omega) (by omega)).mono ?_
          rintro e wb ⟨pb, vb, lb, cb, hppb, hbpb, kb, _, he⟩
          have hvb := hbpb.base
          have s6b : w6.heap.size ≤ wb.heap.size := Nat.le_trans s6a kb.size
          have belb : Below wE.heap.size wE wb := bela.trans (kb.below bela.size (by rintro j (rfl | rfl | e) <;> first | omega | exact Nat.le_trans sE6 (hv1 _ e).1))
          have hFb : F.answers wb.tape := by rw [belb.tape, bel5.tape]; exact hF
          have kEb : Keeps (fun _ => False) wE wb := Keeps.of_below belb
          have hpwb := hpwa.kept kb (by rintro (e | e | e) <;> first | omega | (have := (hv1 _ e).1; omega))
          have belB : Below w.heap.size w wb := bel5.trans (belb.mono bel5.size)
          clear hppa hbpa kb
          rcases he with ⟨_, ⟨q1', rfl⟩, ecb, elb⟩ | ⟨_, _, ⟨q1', rfl⟩, ecb, elb⟩ | ⟨_, _, rfl, ecb, elb⟩
          · go_wp2
            go_ret
            exact ⟨rfl, belB⟩
          · go_wp2
            go_ret
            exact ⟨rfl, belB⟩
          · obtain rfl := ecb.symm
            obtain rfl := elb.symm
            go_wp2_with fail
            refine (on_step8 F w6.heap.size Pp w6.heap.size _ k2 q2 pb vb zd td (r + k) (c + q1) pos (l ++ tt) wb HQ2.out Hz2 E2.out hFb hppb hbpb (by rw [List.length_append]; omega) s6b (by omega) (by omega) (by omega) (by omega) (by omega) hf2 (hR2.kept kEb (fun h => h)) (kEb.cell HE.out (fun h => h)) (by omega) (by omega)).mono ?_
            rintro e wd ⟨pd, vd, ld, cd, hppd, hbpd, kd, _, he⟩
            have beld : Below wE.heap.size wE wd := belb.trans (kd.below belb.size (by rintro j (rfl | rfl | e) <;> first | omega | exact Nat.le_trans sE6 (hvb _ e).1))
            have kEd : Keeps (fun _ => False) wE wd := Keeps.of_below beld
            have hpwd := hpwb.kept kd (by rintro (e | e | e) <;> first | omega | (have := (hvb _ e).1; omega))
            have belD : Below w.heap.size w wd := bel5.trans (beld.mono bel5.size)
            clear hppb hbpb kd
            rcases he with ⟨_, ⟨q2', rfl⟩, ecd, eld⟩ | ⟨hbad, _⟩ | ⟨hbad, _⟩
            rotate_left
            · exact absurd hbad (by omega)
            · exact absurd hbad (by omega)
            go_wp2
            go_ret
            exact ⟨rfl, belD⟩
      by_cases hov : 8388608 < c + (pr : Int)
      · have D1 : decide (100000 < r + (n : Int)) = false := decide_eq_false ho
        have D2 : decide (8388608 < c + (pr : Int)) = true := decide_eq_true hov
        have D3 : decide (8388608 < c + (pr2 : Int)) = true := decide_eq_true (by have := HPP2.out; omega)
        as_aux_lemma =>
          go_wp2_with fail
          refine (on_step8 F wE.heap.size Pw wE.heap.size _ n pr p0 v0 z0 t0 r c pos l w7 HPR.out Hz0 E0.out hF7 hpw7 hbw7 (by omega) bel7.size r0 (by omega) hc0 (by omega) (by omega) hfit (hR0.kept kE7 (fun h => h)) (kE7.cell HE.out (fun h => h)) (by omega) (by omega)).mono ?_
          rintro e w8 ⟨pa, va, la, ca, hpw8, hbw8, k8, hva, he⟩
          rcases he with ⟨hbad, _⟩ | ⟨_, _, ⟨q, rfl⟩, eca, ela⟩ | ⟨_, hbad, _⟩
          · exact absurd hbad (by omega)
          rotate_left
          · exact absurd hbad (by omega)
          obtain rfl := eca.symm
          obtain rfl := ela.symm
          have hpp8 := hpp.kept k8 (by rintro (e | e | e) <;> first | omega | (have := (hv0 _ e).2; omega))
          have hbp8 := hbp.kept k8 (by rintro (e | e | e) <;> first | omega | (have := (hv0 _ e).2; omega)) (fun j hj => by have h1 := hv1 j hj; rintro (e | e | e) <;> first | omega | (have := (hv0 _ e).2; omega))
          have bel8 : Below wE.heap.size wE w8 := bel7.trans (k8.below bel7.size (by rintro j (rfl | rfl | e) <;> first | omega | exact (hv0 _ e).1))
          have s78 := k8.size
          go_wp2_with fail
          refine (zzRanges Pw _ _ _ _ hpw8).mono ?_
          rintro e wz ⟨rfl, hw⟩
          obtain rfl := hw.symm
          clear hw
          go_wp2_with fail
          refine (zzCost Pw _ _ _ _ hpw8).mono ?_
          rintro e wz ⟨rfl, hw⟩
          obtain rfl := hw.symm
          clear hw
          have kE8 : Keeps (fun _ => False) wE w8 := Keeps.of_below bel8
          go_wp2_with fail
          refine (X0 _ w8 (kE8.cell HE.out (fun h => h)) (hR0.kept kE8 (fun h => h))).mono ?_
          rintro e w9 ⟨rfl, hb9⟩
          have k9 : Keeps (fun _ => False) w8 w9 := Keeps.of_below hb9
          have hpw9 := hpw8.kept k9 (fun h => h)
          have hbw9 := hbw8.kept k9 (fun h => h) (fun _ _ h => h)
          have hpp9 := hpp8.kept k9 (fun h => h)
          have hbp9 := hbp8.kept k9 (fun h => h) (fun _ _ h => h)
          have ZT := zzText _ Pw _ _ _ _ _ _ w9 hpw9 hbw9
          rw [← HST.out] at ZT
          go_wp2_with fail
          refine ZT.mono ?_
          clear ZT
          rintro e wa ⟨rfl, k10⟩
          have hva' : ∀ j, va.ownBlock = some j → j < w6.heap.size ∨ w7.heap.size ≤ j := fun j hj => by
            rcases hva j hj with h | h
            · exact .inl (hv0 j h).2
            · exact .inr h
          have hpwa := hpw9.kept k10 (fun e => (hpw9.ne hbw9) (.inr e))
          have hppa := hpp9.kept k10 (fun e => by rcases hva' _ e with h | h <;> omega)
          have hbpa := hbp9.kept k10 (fun e => by rcases hva' _ e with h | h <;> omega) (fun j hj e => by have h1 := hv1 j hj; rcases hva' _ e with h | h <;> omega)
          have bela : Below wE.heap.size wE wa := (bel8.trans (hb9.mono bel8.size)).trans (k10.below (Nat.le_trans bel8.size hb9.size) (fun j hj => (hbw9.base j hj).1))
          have s6a : w6.heap.size ≤ wa.heap.size := by have := hb9.size; have := k10.size; omega
          have hFa : F.answers wa.tape := by rw [bela.tape, bel5.tape]; exact hF
          have kEa : Keeps (fun _ => False) wE wa := Keeps.of_below bela
          clear k8 k9 k10 hva hva' hpw8 hbw8 hpw9 hbw9 hpp8 hbp8 hpp9 hbp9 kE8 hpp hbp hpw7 hbw7 kE7
          go_wp2_with fail
          refine (on_step8 F w6.heap.size Pp w6.heap.size _ k q1 p1 v1 zt tt r c pos l wa HQ1.out Hz1 E1.out hFa hppa hbpa (by omega) s6a r0 (by omega) hc0 (by omega) (by omega) hf1 (hR1.kept kEa (fun h => h)) (kEa.cell HE.out (fun h => h)) (by omega) (by omega)).mono ?_
          rintro e wb ⟨pb, vb, lb, cb, hppb, hbpb, kb, _, he⟩
          have hvb := hbpb.base
          have s6b : w6.heap.size ≤ wb.heap.size := Nat.le_trans s6a kb.size
          have belb : Below wE.heap.size wE wb := bela.trans (kb.below bela.size (by rintro j (rfl | rfl | e) <;> first | omega | exact Nat.le_trans sE6 (hv1 _ e).1))
          have hFb : F.answers wb.tape := by rw [belb.tape, bel5.tape]; exact hF
          have kEb : Keeps (fun _ => False) wE wb := Keeps.of_below belb
          have hpwb := hpwa.kept kb (by rintro (e | e | e) <;> first | omega | (have := (hv1 _ e).1; omega))
          have belB : Below w.heap.size w wb := bel5.trans (belb.mono bel5.size)
          clear hppa hbpa kb
          rcases he with ⟨hbad, _⟩ | ⟨_, _, ⟨q1', rfl⟩, ecb, elb⟩ | ⟨_, _, rfl, ecb, elb⟩
          · exact absurd hbad (by omega)
          · go_wp2
            go_ret
            exact ⟨rfl, belB⟩
          · obtain rfl := ecb.symm
            obtain rfl := elb.symm
            go_wp2_with fail
            refine (on_step8 F w6.heap.size Pp w6.heap.size _ k2 q2 pb vb zd td (r + k) (c + q1) pos (l ++ tt) wb HQ2.out Hz2 E2.out hFb hppb hbpb (by rw [List.length_append]; omega) s6b (by omega) (by omega) (by omega) (by omega) (by omega) hf2 (hR2.kept kEb (fun h => h)) (kEb.cell HE.out (fun h => h)) (by omega) (by omega)).mono ?_
            rintro e wd ⟨pd, vd, ld, cd, hppd, hbpd, kd, _, he⟩
            have beld : Below wE.heap.size wE wd := belb.trans (kd.below belb.size (by rintro j (rfl | rfl | e) <;> first | omega | exact Nat.le_trans sE6 (hvb _ e).1))
            have kEd : Keeps (fun _ => False) wE wd := Keeps.of_below beld
            have hpwd := hpwb.kept kd (by rintro (e | e | e) <;> first | omega | (have := (hvb _ e).1; omega))
            have belD : Below w.heap.size w wd := bel5.trans (beld.mono bel5.size)
            clear hppb hbpb kd
            rcases he with ⟨hbad, _⟩ | ⟨_, _, ⟨q2', rfl⟩, ecd, eld⟩ | ⟨_, hbad, _⟩
            · exact absurd hbad (by omega)
            rotate_left
            · exact absurd hbad (by omega)
            go_wp2
            go_ret
            exact ⟨rfl, belD⟩
      · have D1 : decide (100000 < r + (n : Int)) = false := decide_eq_false ho
        have D2 : decide (8388608 < c + (pr : Int)) = false := decide_eq_false hov
        as_aux_lemma =>
          go_wp2_with fail
          refine (on_step8 F wE.heap.size Pw wE.heap.size _ n pr p0 v0 z0 t0 r c pos l w7 HPR.out Hz0 E0.out hF7 hpw7 hbw7 (by omega) bel7.size r0 (by omega) hc0 (by omega) (by omega) hfit (hR0.kept kE7 (fun h => h)) (kE7.cell HE.out (fun h => h)) (by omega) (by omega)).mono ?_
          rintro e w8 ⟨pa, va, la, ca, hpw8, hbw8, k8, hva, he⟩
          rcases he with ⟨hbad, _⟩ | ⟨_, hbad, _⟩ | ⟨_, _, rfl, eca, ela⟩
          · exact absurd hbad (by omega)
          · exact absurd hbad (by omega)
          obtain rfl := eca.symm
          obtain rfl := ela.symm
          have hpp8 := hpp.kept k8 (by rintro (e | e | e) <;> first | omega | (have := (hv0 _ e).2; omega))
          have hbp8 := hbp.kept k8 (by rintro (e | e | e) <;> first | omega | (have := (hv0 _ e).2; omega)) (fun j hj => by have h1 := hv1 j hj; rintro (e | e | e) <;> first | omega | (have := (hv0 _ e).2; omega))
          have bel8 : Below wE.heap.size wE w8 := bel7.trans (k8.below bel7.size (by rintro j (rfl | rfl | e) <;> first | omega | exact (hv0 _ e).1))
          have s78 := k8.size
          go_wp2_with fail
          refine (zzRanges Pw _ _ _ _ hpw8).mono ?_
          rintro e wz ⟨rfl, hw⟩
          obtain rfl := hw.symm
          clear hw
          go_wp2_with fail
          refine (zzCost Pw _ _ _ _ hpw8).mono ?_
          rintro e wz ⟨rfl, hw⟩
          obtain rfl := hw.symm
          clear hw
          have kE8 : Keeps (fun _ => False) wE w8 := Keeps.of_below bel8
          go_wp2_with fail
          refine (X0 _ w8 (kE8.cell HE.out (fun h => h)) (hR0.kept kE8 (fun h => h))).mono ?_
          rintro e w9 ⟨rfl, hb9⟩
          have k9 : Keeps (fun _ => False) w8 w9 := Keeps.of_below hb9
          have hpw9 := hpw8.kept k9 (fun h => h)
          have hbw9 := hbw8.kept k9 (fun h => h) (fun _ _ h => h)
          have hpp9 := hpp8.kept k9 (fun h => h)
          have hbp9 := hbp8.kept k9 (fun h => h) (fun _ _ h => h)
          have ZT := zzText _ Pw _ _ _ _ _ _ w9 hpw9 hbw9
          rw [T0.out] at ZT
          go_wp2_with fail
          refine ZT.mono ?_
          clear ZT
          rintro e wa ⟨rfl, k10⟩
          have hva' : ∀ j, va.ownBlock = some j → j < w6.heap.size ∨ w7.heap.size ≤ j := fun j hj => by
            rcases hva j hj with h | h
            · exact .inl (hv0 j h).2
            · exact .inr h
          have hpwa := hpw9.kept k10 (fun e => (hpw9.ne hbw9) (.inr e))
          have hppa := hpp9.kept k10 (fun e => by rcases hva' _ e with h | h <;> omega)
          have hbpa := hbp9.kept k10 (fun e => by rcases hva' _ e with h | h <;> omega) (fun j hj e => by have h1 := hv1 j hj; rcases hva' _ e with h | h <;> omega)
          have bela : Below wE.heap.size wE wa := (bel8.trans (hb9.mono bel8.size)).trans (k10.below (Nat.le_trans bel8.size hb9.size) (fun j hj => (hbw9.base j hj).1))
          have s6a : w6.heap.size ≤ wa.heap.size := by have := hb9.size; have := k10.size; omega
          have hFa : F.answers wa.tape := by rw [bela.tape, bel5.tape]; exact hF
          have kEa : Keeps (fun _ => False) wE wa := Keeps.of_below bela
          clear k8 k9 k10 hva hva' hpw8 hbw8 hpw9 hbw9 hpp8 hbp8 hpp9 hbp9 kE8 hpp hbp hpw7 hbw7 kE7
          go_wp2_with fail
          refine (on_step8 F w6.heap.size Pp w6.heap.size _ k q1 p1 v1 zt tt r c pos l wa HQ1.out Hz1 E1.out hFa hppa hbpa (by omega) s6a r0 (by omega) hc0 (by omega) (by omega) hf1 (hR1.kept kEa (fun h => h)) (kEa.cell HE.out (fun h => h)) (by omega) (by omega)).mono ?_
          rintro e wb ⟨pb, vb, lb, cb, hppb, hbpb, kb, _, he⟩
          have hvb := hbpb.base
          have s6b : w6.heap.size ≤ wb.heap.size := Nat.le_trans s6a kb.size
          have belb : Below wE.heap.size wE wb := bela.trans (kb.below bela.size (by rintro j (rfl | rfl | e) <;> first | omega | exact Nat.le_trans sE6 (hv1 _ e).1))
          have hFb : F.answers wb.tape := by rw [belb.tape, bel5.tape]; exact hF
          have kEb : Keeps (fun _ => False) wE wb := Keeps.of_below belb
          have hpwb := hpwa.kept kb (by rintro (e | e | e) <;> first | omega | (have := (hv1 _ e).1; omega))
          have belB : Below w.heap.size w wb := bel5.trans (belb.mono bel5.size)
          clear hppa hbpa kb
          rcases he with ⟨hbad, _⟩ | ⟨_, hbad, _⟩ | ⟨_, _, rfl, ecb, elb⟩
          · exact absurd hbad (by omega)
          · exact absurd hbad (by omega)
          obtain rfl := ecb.symm
          obtain rfl := elb.symm
          go_wp2_with fail
          refine (on_step8 F w6.heap.size Pp w6.heap.size _ k2 q2 pb vb zd td (r + k) (c + q1) pos (l ++ tt) wb HQ2.out Hz2 E2.out hFb hppb hbpb (by rw [List.length_append]; omega) s6b (by omega) (by omega) (by omega) (by omega) (by omega) hf2 (hR2.kept kEb (fun h => h)) (kEb.cell HE.out (fun h => h)) (by omega) (by omega)).mono ?_
          rintro e wd ⟨pd, vd, ld, cd, hppd, hbpd, kd, _, he⟩
          have beld : Below wE.heap.size wE wd := belb.trans (kd.below belb.size (by rintro j (rfl | rfl | e) <;> first | omega | exact Nat.le_trans sE6 (hvb _ e).1))
          have kEd : Keeps (fun _ => False) wE wd := Keeps.of_below beld
          have hpwd := hpwb.kept kd (by rintro (e | e | e) <;> first | omega | (have := (hvb _ e).1; omega))
          have belD : Below w.heap.size w wd := bel5.trans (beld.mono bel5.size)
          clear hppb hbpb kd
          rcases he with ⟨hbad, _⟩ | ⟨_, _, ⟨q2', rfl⟩, ecd, eld⟩ | ⟨_, _, rfl, ecd, eld⟩
          · exact absurd hbad (by omega)
          · have D3 : decide (8388608 < c + (pr2 : Int)) = true := decide_eq_true (by have := HPP2.out; omega)
            go_wp2
            go_ret
            exact ⟨rfl, belD⟩
          · have D3 : decide (8388608 < c + (pr2 : Int)) = false := decide_eq_false (by have := HPP2.out; omega)
            obtain rfl := ecd.symm
            obtain rfl := eld.symm
            have hrr : r + (k : Int) + (k2 : Int) = r + (n : Int) := by omega
            have hcc : c + (q1 : Int) + (q2 : Int) = c + (pr : Int) + 400 := by omega
            rw [hrr, hcc] at hppd
            go_wp2_with fail
            refine (zzRanges Pp _ _ _ _ hppd).mono ?_
            rintro e wz ⟨rfl, hw⟩
            obtain rfl := hw.symm
            clear hw
            go_wp2_with fail
            refine (zzCost Pp _ _ _ _ hppd).mono ?_
            rintro e wz ⟨rfl, hw⟩
            obtain rfl := hw.symm
            clear hw
            go_wp2_with fail
            refine (zzCost Pw _ _ _ _ hpwd).mono ?_
            rintro e wz ⟨rfl, hw⟩
            obtain rfl := hw.symm
            clear hw
            have ZT := zzText _ Pp _ _ _ _ _ _ wd hppd hbpd
            rw [T1.out] at ZT
            go_wp2_with fail
            refine ZT.mono ?_
            clear ZT
            rintro e we ⟨rfl, ke⟩
            have bele : Below wE.heap.size wE we := beld.trans (ke.below beld.size (fun j hj => Nat.le_trans sE6 (hbpd.base j hj).1))
            have kEe : Keeps (fun _ => False) wE we := Keeps.of_below bele
            go_wp2_with fail
            refine (X1 _ we (kEe.cell HE.out (fun h => h)) (hR1.kept kEe (fun h => h))).mono ?_
            rintro e wf ⟨rfl, hbf⟩
            have belf : Below wE.heap.size wE wf := bele.trans (hbf.mono bele.size)
            have kEf : Keeps (fun _ => False) wE wf := Keeps.of_below belf
            go_wp2_with fail
            refine (X2 _ wf (kEf.cell HE.out (fun h => h)) (hR2.kept kEf (fun h => h))).mono ?_
            rintro e wg ⟨rfl, hbg⟩
            have belg : Below w.heap.size w wg := bel5.trans ((belf.trans (hbg.mono belf.size)).mono bel5.size)
            go_wp2
            go_ret
            exact ⟨rfl, belg⟩
  · as_aux_lemma =>
      subst htr
      subst hc0
      go_wp2_with fail
      refine (BOf wE).mono ?_
      rintro e w6 ⟨Pw, rfl, hPw, hpw, hb6⟩
      go_wp2_with fail
      refine (BOf w6).mono ?_
      rintro e w7 ⟨Pp, rfl, hPp, hpp, hb7⟩
      have hpw7 := hpw.kept (Keeps.of_below (S := fun _ => False) hb7) (fun h => h)
      have hne : Pw ≠ Pp := by have := hpw.lt; omega
      have hF7 : F.answers w7.tape := by rw [hb7.tape, hb6.tape, bel5.tape]; exact hF
      have bel7 : Below wE.heap.size wE w7 := hb6.trans (hb7.mono hb6.size)
      have hPp' : wE.heap.size ≤ Pp := Nat.le_trans hb6.size hPp
      clear hpw hb6 hb7 BOf BOn
      by_cases ho : 100000 < r + (n : Int)
      · have D1 : decide (100000 < r + (n : Int)) = true := decide_eq_true ho
        go_wp2_with fail
        refine (zzWriteSet_off F Pw _ n r 0 pos w7 hF7 hpw7 r0 (by omega)).mono ?_
        rintro e w8 ⟨hpw8, k8, ⟨hbad, _⟩ | ⟨_, q, rfl⟩⟩
        · exact absurd ho (by omega)
        have hpp8 := hpp.kept k8 (fun e => hne e.symm)
        have bel8 : Below wE.heap.size wE w8 := bel7.trans (k8.below bel7.size (by rintro j rfl; exact hPw))
        have hF8 : F.answers w8.tape := by rw [k8.tape]; exact hF7
        go_wp2_with fail
        refine (zzRanges Pw _ _ _ _ hpw8).mono ?_
        rintro e wz ⟨rfl, hw⟩
        obtain rfl := hw.symm
        clear hw
        go_wp2_with fail
        refine (zzCost Pw _ _ _ _ hpw8).mono ?_
        rintro e wz ⟨rfl, hw⟩
        obtain rfl := hw.symm
        clear hw
        go_wp2_with fail
        refine (zzOut Pw none _ _ _ hpw8).mono ?_
        rintro e wz ⟨rfl, hw⟩
        obtain rfl := hw.symm
        clear hw
        go_wp2_with fail
        refine (zzWriteSet_off F Pp _ k r 0 pos w8 hF8 hpp8 r0 (by omega)).mono ?_
        rintro e w9 ⟨hpp9, k9, ⟨h1, rfl⟩ | ⟨h1, q1, rfl⟩⟩
        · have bel9 : Below wE.heap.size wE w9 := bel8.trans (k9.below bel8.size (by rintro j rfl; exact hPp'))
          have hF9 : F.answers w9.tape := by rw [k9.tape]; exact hF8
          go_wp2_with fail
          refine (zzWriteSet_off F Pp _ k2 (r + k) 0 pos w9 hF9 hpp9 (by omega) (by omega)).mono ?_
          rintro e w10 ⟨hpp10, k10, ⟨hbad, _⟩ | ⟨_, q2, rfl⟩⟩
          · exact absurd ho (by omega)
          have bel10 : Below w.heap.size w w10 := bel5.trans ((bel9.trans (k10.below bel9.size (by rintro j rfl; exact hPp'))).mono bel5.size)
          go_wp2
          go_ret
          exact ⟨rfl, bel10⟩
        · have bel9 : Below w.heap.size w w9 := bel5.trans ((bel8.trans (k9.below bel8.size (by rintro j rfl; exact hPp'))).mono bel5.size)
          go_wp2
          go_ret
          exact ⟨rfl, bel9⟩
      · have D1 : decide (100000 < r + (n : Int)) = false := decide_eq_false ho
        go_wp2_with fail
        refine (zzWriteSet_off F Pw _ n r 0 pos w7 hF7 hpw7 r0 (by omega)).mono ?_
        rintro e w8 ⟨hpw8, k8, ⟨_, rfl⟩ | ⟨hbad, _⟩⟩
        rotate_left
        · exact absurd hbad (by omega)
        have hpp8 := hpp.kept k8 (fun e => hne e.symm)
        have bel8 : Below wE.heap.size wE w8 := bel7.trans (k8.below bel7.size (by rintro j rfl; exact hPw))
        have hF8 : F.answers w8.tape := by rw [k8.tape]; exact hF7
        go_wp2_with fail
        refine (zzRanges Pw _ _ _ _ hpw8).mono ?_
        rintro e wz ⟨rfl, hw⟩
        obtain rfl := hw.symm
        clear hw
        go_wp2_with fail
        refine (zzCost Pw _ _ _ _ hpw8).mono ?_
        rintro e wz ⟨rfl, hw⟩
        obtain rfl := hw.symm
        clear hw
        go_wp2_with fail
        refine (zzOut Pw none _ _ _ hpw8).mono ?_
        rintro e wz ⟨rfl, hw⟩
        obtain rfl := hw.symm
        clear hw
        go_wp2_with fail
        refine (zzWriteSet_off F Pp _ k r 0 pos w8 hF8 hpp8 r0 (by omega)).mono ?_
        rintro e w9 ⟨hpp9, k9, ⟨_, rfl⟩ | ⟨hbad, _⟩⟩
        rotate_left
        · exact absurd hbad (by omega)
        have bel9 : Below wE.heap.size wE w9 := bel8.trans (k9.below bel8.size (by rintro j rfl; exact hPp'))
        have hF9 : F.answers w9.tape := by rw [k9.tape]; exact hF8
        go_wp2_with fail
        refine (zzWriteSet_off F Pp _ k2 (r + k) 0 pos w9 hF9 hpp9 (by omega) (by omega)).mono ?_
        rintro e w10 ⟨hpp10, k10, ⟨_, rfl⟩ | ⟨hbad, _⟩⟩
        rotate_left
        · exact absurd hbad (by omega)
        have bel10 : Below w.heap.size w w10 := bel5.trans ((bel9.trans (k10.below bel9.size (by rintro j rfl; exact hPp'))).mono bel5.size)
        have hrr : r + (k : Int) + (k2 : Int) = r + (n : Int) := by omega
        rw [hrr] at hpp10
        go_wp2_with fail
        refine (zzRanges Pp _ _ _ _ hpp10).mono ?_
        rintro e wz ⟨rfl, hw⟩
        obtain rfl := hw.symm
        clear hw
        go_wp2_with fail
        refine (zzCost Pp _ _ _ _ hpp10).mono ?_
        rintro e wz ⟨rfl, hw⟩
        obtain rfl := hw.symm
        clear hw
        go_wp2
        go_ret
        exact ⟨rfl, bel10⟩

end Go.Proofs.Qxb6613280aFmt
