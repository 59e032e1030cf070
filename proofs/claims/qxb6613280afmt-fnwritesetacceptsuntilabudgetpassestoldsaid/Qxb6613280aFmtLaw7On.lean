/-
  FnWriteSetAcceptsUntilABudgetPasses, walked: a parser that translates.
-/
import Derived.Test.Qxb6613280aFmtLaw7
import Derived.Deep.CutBlock
import Derived.Deep.CutRange
import Derived.Deep.DeepCutAuto
namespace Go.Proofs.Qxb6613280aFmt
open Go.ChangeShapes Go.WideShapes Go.ChangeAt Go.RowKit Go.Extern.Stop Go.Stop Go.Extern

/-- The text of k copies: its length, its parts. -/
theorem rep_text (t : List UInt8) (k : Nat) : ∃ T : ByteArray, T = ⟨(rep t k).toArray⟩ ∧ T.size = k * t.length ∧ ∀ j, j < k → T.extract (j * t.length) ((j + 1) * t.length) = ⟨t.toArray⟩ := by
  refine ⟨_, rfl, rep_len t k, fun j hj => ?_⟩
  apply ByteArray.ext
  rw [ByteArray.data_extract]
  show (rep t k).toArray.extract _ _ = _
  rw [List.extract_toArray, List.extract_eq_take_drop]
  rw [show (j + 1) * t.length - j * t.length = t.length from by rw [Nat.succ_mul]; omega, rep_part t k j hj]

/-- One call of writeSet, the price under a name. -/
theorem on_step' (F : Interp) (B P b R n pr : Nat) (p v : Value) (zs : List (Int × Int)) (t : List UInt8) (r c pos : Int) (l : List UInt8) (w : World) (hpr : pr = 400 + n * 32) (hn : zs.length = n) (htx : syn zs = t) (hF : F.answers w.tape) (h : Par P (.pointer (some ⟨b, 0, none⟩)) r c w) (hb : Bld B b p v l w)
    (hlen : l.length ≤ 1000000000) (hBw : B ≤ w.heap.size) (r0 : 0 ≤ r) (r1 : r ≤ 100000000) (c0 : 0 ≤ c) (c1 : c ≤ 100000000) (hm : n ≤ 1000000) (hfit : Fit zs) (hR : RunesAt R zs w) (ht : w.cell? ⟨2, 15, none⟩ = some (.int .u8 4)) (hRP : R ≠ P) (h2P : 2 ≠ P) :
    Calls Tryf.prog 8 #[.pointer (some ⟨P, 0, none⟩), .int .i64 pos, .slice (some ⟨R, 0, none⟩) n n] w fun e w' => ∃ (p' v' : Value) (l' : List UInt8) (c' : Int), Par P (.pointer (some ⟨b, 0, none⟩)) (r + n) c' w' ∧ Bld B b p' v' l' w' ∧ Keeps (Both P b v) w w' ∧
    ((100000 < r + n ∧ (∃ q, e = .returned (.iface 78 q)) ∧ c' = c ∧ l' = l) ∨
     (r + n ≤ 100000 ∧ 8388608 < c + pr ∧ (∃ q, e = .returned (.iface 78 q)) ∧ c' = c + pr ∧ l' = l) ∨
     (r + n ≤ 100000 ∧ c + pr ≤ 8388608 ∧ e = .returned .nilIface ∧ c' = c + pr ∧ l' = l ++ t)) := by
  have hp : (400 + (n : Int) * 32) = pr := by omega
  rw [← hp]
  exact on_step F B P b R n p v zs t r c pos l w hn htx hF h hb hlen hBw r0 r1 c0 c1 hm hfit hR ht hRP h2P

/-- A quotient, as a value (so that linear arithmetic does not meet it). -/
theorem val_quo (X n q : Int) (h0 : 0 ≤ X) (h : Int.tdiv X n = q) (q0 : 0 ≤ q) (q1 : q ≤ 9000000) : Value.int .i64 (X / n) = .int .i64 q ∧ Value.int .i64 (IntKind.i64.wrap (Int.tdiv X n)) = .int .i64 q := by
  rw [← Int.tdiv_eq_ediv_of_nonneg h0, h, IntKind.wrap_i64]; exact ⟨rfl, congrArg _ (by omega)⟩

theorem mul_next (k n m : Nat) (h : k * n = m) : ((k : Int) + 1) * (n : Int) = m + n := by
  rw [← h, Int.natCast_mul, Int.add_mul, Int.one_mul]
theorem mul_cast (k n m : Nat) (h : k * n = m) : (k : Int) * (n : Int) = m := by
  rw [← h, Int.natCast_mul]

set_option maxHeartbeats 8000000 in
set_option maxRecDepth 100000 in
theorem law7_on (F : Interp) (pos : Int) (a1 a2 : Option Addr) (c1 c2 : Nat) (xs ys : List Int) (w : World) (hF : F.answers w.tape) (ht : w.cell? ⟨2, 15, none⟩ = some (.int .u8 4)) (hfx : ∀ x ∈ xs, -2147483648 ≤ x ∧ x ≤ 2147483647) (hfy : ∀ x ∈ ys, -2147483648 ≤ x ∧ x ≤ 2147483647)
    (h1 : Ints a1 xs w) (h2 : Ints a2 ys w) (hl : ys.length = xs.length) (hm : xs.length ≤ 65536) :
    Calls Tryf.prog 4 #[.bool true, .int .i64 pos, .slice a1 xs.length c1, .slice a2 xs.length c2] w fun e w' => e = .returned (.bool true) ∧ Below w.heap.size w w' := by
  obtain ⟨n, hN⟩ : ∃ n, n = xs.length := ⟨_, rfl⟩
  have Z := fun a1 a2 c1 c2 w h1 h2 => zzRunes a1 a2 c1 c2 xs ys w h1 h2 hl (by omega)
  have hfit := fit_zip xs ys hfx hfy
  have hzl : (xs.zip ys).length = xs.length := by simp [hl]
  generalize xs.zip ys = zs at Z hfit hzl
  have hsl := syn_len zs
  have ZX0 := fun R w ht hR => zzSyntax_any R zs w ht hfit hR (by omega)
  obtain ⟨t, hT⟩ : ∃ t, t = syn zs := ⟨_, rfl⟩
  have HTX : Hid (syn zs = t) := hT.symm
  rw [← hT] at hsl ZX0
  clear hT
  obtain ⟨S, hS⟩ : ∃ S : ByteArray, S = ⟨t.toArray⟩ := ⟨_, rfl⟩
  obtain ⟨u, hu⟩ : ∃ u, u = t.length := ⟨_, rfl⟩
  have HUU : Hid (t.length = u) := hu.symm
  have hSu : S.size = u := by rw [hS, hu]; rfl
  rw [← hS] at ZX0
  rw [hzl] at hsl ZX0
  rw [← hN] at hzl hsl ZX0
  have HU : Hid (1 ≤ t.length ∧ t.length ≤ 29 * n + 20) := hsl
  have hu1 : 1 ≤ u := by rw [hu]; exact hsl.1
  have B57 : ((u : Int) == 0) = false := by simp; omega
  have hu2 : u ≤ 29 * n + 20 := by rw [hu]; exact hsl.2
  have HSS : Hid (S = ⟨t.toArray⟩) := hS
  clear hu hsl hS
  have ZX := fun R w h => ZX0 R w h
  obtain ⟨pr, hpr0⟩ : ∃ pr, pr = 400 + n * 32 := ⟨_, rfl⟩
  have HPR : Hid (pr = 400 + n * 32) := hpr0
  have hpr : 400 + (n : Int) * 32 = pr := by omega
  have hpr4 : 400 ≤ pr := by omega
  have hpr5 : pr ≤ 3000000 := by omega
  clear hpr0
  rw [← hN] at hl hm Z ⊢
  have HN : Hid (n = xs.length) := hN
  clear hN
  have t1 : ¬ (65536 : Int) < n := by omega
  have t3 : ((n : Int) != n) = false := by simp
  cases a1 with
  | none =>
    cases a2 with
    | none =>
      have J1 := h1
      have h2b := h2
      have belb : Below w.heap.size w w := Below.refl _ _
      have J2 := h2b
      have bel0 := belb
      go_enter Tryf.func4, Tryf.ntmps4
      go_wp2_with fail
      refine (zzBytes7 true pos none none n n c1 c2 w).mono ?_
      rintro e w1 ⟨rfl | rfl, hw⟩
      · obtain rfl := hw.symm
        go_wp2_with fail
        refine (Z _ _ _ _ _ J1 J2).mono ?_
        rintro e w2 ⟨rfl, hR, hb2⟩
        have bel2 := bel0.trans (hb2.mono bel0.size)
        go_wp2_with fail
        refine (zzNewBuilder [] w2 (by simp)).mono ?_
        rintro e w3 ⟨rfl, p0, v0, hB, hb3⟩
        have hBl := Keeps.lt hB.heap
        go_wp2_with fail
        refine (zzNewParser (some ⟨w2.heap.size, 0, none⟩) w3).mono ?_
        rintro e w4 ⟨P, rfl, hP, hpar, hb4⟩
        have hB4 : Bld w2.heap.size w2.heap.size p0 v0 [] w4 := hB.kept (Keeps.of_below (S := fun _ => False) hb4) (fun h => h) (fun _ _ h => h)
        have bel4 : Below w2.heap.size w2 w4 := hb3.trans (hb4.mono hb3.size)
        have ht2 : w2.cell? ⟨2, 15, none⟩ = some (.int .u8 4) := (bel2.cell (p := ⟨2, 15, none⟩) (World.block_lt_of_cell? _ _ ht)).trans ht
        have h2P : 2 ≠ P := by
          have a1 := World.block_lt_of_cell? _ _ ht2
          have a2 := hb3.size
          simp only at a1
          omega
        have hRP := show _ ≠ P from Nat.ne_of_lt (Nat.lt_of_le_of_lt hb2.size (Nat.lt_of_lt_of_le hBl hP))
        go_wp2
        go_loopw [15, 16] (fun a r wr => ∃ (k : Nat) (p v : Value), a = .int .i64 k ∧ r = .bool false ∧ k * n ≤ 100000 ∧ k * pr ≤ 8388608 ∧ Par P (.pointer (some ⟨w2.heap.size, 0, none⟩)) ((k * n : Nat) : Int) ((k * pr : Nat) : Int) wr ∧ Bld w2.heap.size w2.heap.size p v (rep t k) wr ∧ Below w2.heap.size w2 wr)
          (fun a _ _ => 32768 - (intOf a).toNat)
        case atStart => exact ⟨0, p0, v0, rfl, rfl, by omega, by omega, by simpa using hpar, hB4, bel4⟩
        case round =>
          obtain ⟨k, p, v, rfl, rfl, hkn, hkc, hpar, hbld, hbel⟩ := hrel
          have hF' : F.answers wr.tape := by rw [hbel.tape, bel2.tape]; exact hF
          have hlt : k < 32768 := by
            have := Nat.mul_le_mul_left k hpr4
            omega
          have hlr : (rep t k).length ≤ 1000000000 := by
            rw [rep_len]
            have h1 := Nat.mul_le_mul_left k HU.out.2
            have h2 : k * (29 * n + 20) = 29 * (k * n) + 20 * k := by rw [Nat.mul_add, Nat.mul_left_comm, Nat.mul_comm k 20]
            omega
          have HLR : Hid (k * t.length ≤ 1000000000) := by rw [← rep_len]; exact hlr
          have hk0 : Keeps (fun _ => False) w2 wr := Keeps.of_below hbel
          have hRr := hR.kept hk0 (fun h => h)
          have htr := hk0.cell ht2 (fun h => h)
          have HQ1 : Hid (100000 < k * n + n → Int.tdiv (100000 : Int) n = k) := fun h => quo_eq 100000 n k hkn h
          have HQ2 : Hid (8388608 < k * pr + pr → Int.tdiv (8388608 : Int) pr = k) := fun h => quo_eq 8388608 pr k hkc h
          have HQ3 : Hid (∃ q : Nat, Int.tdiv (8388608 : Int) pr = q ∧ k ≤ q ∧ q ≤ 8388608) := quo_ge 8388608 pr k (by omega) hkc
          have HQ4 : Hid (0 < n → k * n + n ≤ 100000 → ∃ q : Nat, Int.tdiv (100000 : Int) n = q ∧ k + 1 ≤ q ∧ q ≤ 100000) := fun h h' => quo_ge 100000 n (k + 1) h (by rw [Nat.succ_mul]; exact h')
          have HS1 : Hid ((k + 1) * n = k * n + n) := Nat.succ_mul k n
          have HS2 : Hid ((k + 1) * pr = k * pr + pr) := Nat.succ_mul k pr
          obtain ⟨T, hT, hTs, hTe⟩ := rep_text t k
          have HT : Hid (T = ⟨(rep t k).toArray⟩) := hT
          have HTE : Hid (∀ j, j < k → T.extract (j * t.length) ((j + 1) * t.length) = S) := by rw [HSS.out]; exact hTe
          have HRL : Hid (rep t (k + 1) = rep t k ++ t) := rfl
          have hlt' : (k : Int) < 32768 := by omega
          clear hT hTe
          generalize hm0 : k * n = m at hkn hpar HQ1 HQ4 HS1
          generalize hc0 : k * pr = ck at hkc hpar HQ2 HS2
          have HMUL : Hid (((k : Int) + 1) * (n : Int) = m + n) := mul_next k n m hm0
          have hmc := mul_cast k pr ck hc0
          have HMC1 : Hid (((k : Int) + 1) * (pr : Int) = ck + pr) := mul_next k pr ck hc0
          clear hm0 hc0
          have hTs' : T.size = k * u := by rw [hTs, HUU.out]
          have HTS : Hid (T.size = k * u) := hTs'
          clear hTs
          rw [HUU.out] at HTE
          go_wp2_with fail
          refine (on_step' F w2.heap.size P w2.heap.size _ n pr p v zs t m ck pos (rep t k) wr HPR.out hzl HTX.out hF' hpar hbld hlr hbel.size (by omega) (by omega) (by omega) (by omega) (by omega) hfit hRr htr hRP h2P).mono ?_
          rintro e w5 ⟨p5, v5, l5, c5, hp5, hb5, k5, he⟩
          have HKC : Hid (ck ≤ 8388608) := hkc
          have hkc' : (ck : Int) ≤ 8388608 := by omega
          clear hkc
          have bel5 : Below w2.heap.size w2 w5 := hbel.trans (k5.below hbel.size (by
            rintro j (rfl | hj)
            · omega
            · exact Own.base hbld (Nat.le_refl _) j hj))
          have hk5 : Keeps (fun _ => False) w2 w5 := Keeps.of_below bel5
          have hR5 := hR.kept hk5 (fun h => h)
          have ht5 := hk5.cell ht2 (fun h => h)
          rcases he with ⟨hc, ⟨q, rfl⟩, rfl, rfl⟩ | ⟨hc, hcc, ⟨q, rfl⟩, rfl, rfl⟩ | ⟨hc, hcc, rfl, rfl, rfl⟩
          · have hn0 : 0 < n := by omega
            have hq0 := HQ1.out (by omega)
            obtain ⟨sm, hsm⟩ : ∃ sm : Nat, (m : Int) + n = sm := ⟨m + n, by omega⟩
            obtain ⟨sc, hsc⟩ : ∃ sc : Nat, (ck : Int) + pr = sc := ⟨ck + pr, by omega⟩
            have hmul : ((k : Int) + 1) * (n : Int) = sm := by rw [HMUL.out, hsm]
            have hmc1 : ((k : Int) + 1) * (pr : Int) = sc := by rw [HMC1.out, hsc]
            rw [hsm] at hp5 hc
            have hsmb : (sm : Int) ≤ 200000 := by omega
            have hscb : (sc : Int) ≤ 20000000 := by omega
            have B49 : decide ((sm : Int) ≤ 100000) = false := decide_eq_false (by omega)
            have Bk : decide ((k : Int) < 32768) = true := decide_eq_true (by omega)
            have Bn : decide ((0 : Int) < n) = true := decide_eq_true (by omega)
            have hkb : (k : Int) ≤ 32767 := by omega
            clear hsm hsc hkn hlt hlr hTs' hc hlt'
            have hn1 : ¬ (n : Int) = 0 := by omega
            have hn3 : ¬ n = 0 := by omega
            go_upto_region 35 with fail
            clear hq0
            obtain ⟨q2, hq2, hq3, hq5⟩ := HQ3.out
            have HQ5 : Hid (q2 ≤ 8388608) := hq5
            have hq8 : (q2 : Int) ≤ 9000000 := by omega
            have hq9 : q2 ≤ 9000000 := by omega
            clear hq5 hq9
            have B35 : decide ((q2 : Int) < k) = false := decide_eq_false (by omega)
            have B35' : decide (q2 < k) = false := decide_eq_false (by omega)
            have hq4 : ¬ (q2 : Int) < k := by omega
            clear hq3
            have hp0 : ¬ (pr : Int) = 0 := by omega
            have hp3 : ¬ pr = 0 := by omega
            have hp4 : 0 < pr := by omega
            have hp5' : (0 : Int) < pr := by omega
            go_wp2_with fail
            clear hq2
            refine (zzRanges P _ _ _ _ hp5).mono ?_
            rintro e w6 ⟨rfl, hw⟩
            obtain rfl := hw.symm
            go_wp2_with fail
            refine (zzCost P _ _ _ _ hp5).mono ?_
            rintro e w6 ⟨rfl, hw⟩
            obtain rfl := hw.symm
            go_wp2_with fail
            refine (ZX _ _ ht5 hR5).mono ?_
            rintro e w6 ⟨rfl, hb6⟩
            have k6 : Keeps (fun _ => False) w5 w6 := Keeps.of_below hb6
            have hp6 := hp5.kept k6 (fun h => h)
            have hb6' := hb5.kept k6 (fun h => h) (fun _ _ h => h)
            have bel6 : Below w2.heap.size w2 w6 := bel5.trans (k6.below bel5.size (fun _ h => h.elim))
            have ZT := zzText _ P _ _ _ _ _ _ w6 hp6 hb6'
            rw [← HT.out] at ZT
            go_wp2_with fail
            refine ZT.mono ?_
            rintro e w7 ⟨rfl, k7⟩
            have bel7 : Below w.heap.size w w7 := bel2.trans ((bel6.trans (k7.below bel6.size (fun j hj => (hb6'.base j hj).1))).mono bel2.size)
            obtain ⟨g, hg⟩ : ∃ g, g = k * u := ⟨_, rfl⟩
            have hgu : (k : Int) * (u : Int) = g := mul_cast k u g hg.symm
            have hTs' := HTS.out
            rw [← hg] at hTs'
            have HG : Hid (g = k * u) := hg
            have hgb : (g : Int) ≤ 1000000000 := by have h := HLR.out; rw [HUU.out, ← hg] at h; omega
            have B60 : ((g : Int) != g) = false := by simp
            clear hg
            go_wp2
            go_loopw [24] (fun a wr => ∃ j : Nat, a = .int .i64 j ∧ j ≤ k ∧ wr = w7)
              (fun a _ => k - (intOf a).toNat)
            case atStart => exact ⟨0, rfl, by omega, rfl⟩
            case round =>
              obtain ⟨j, rfl, hjk, hw⟩ := hrel
              obtain rfl := hw.symm
              by_cases hj : j < k
              · have hj' : (j : Int) < k := by omega
                obtain ⟨x0, hx0⟩ : ∃ x0, x0 = j * u := ⟨_, rfl⟩
                obtain ⟨x1, hx1⟩ : ∃ x1, x1 = (j + 1) * u := ⟨_, rfl⟩
                have hy0 : (j : Int) * (u : Int) = x0 := mul_cast j u x0 hx0.symm
                have hy1 : ((j : Int) + 1) * (u : Int) = x1 := by rw [mul_next j u x0 hx0.symm, hx1, Nat.succ_mul, ← hx0, Int.natCast_add]
                have hle : x0 ≤ x1 := by rw [hx0, hx1]; exact Nat.mul_le_mul_right u (by omega)
                have hxg : x1 ≤ g := by rw [hx1, HG.out]; exact Nat.mul_le_mul_right u hj
                have hE : T.extract x0 x1 = S := by rw [hx0, hx1]; exact HTE.out j hj
                clear hx0 hx1
                go_wp2
                go_roundw
                case rel => exact ⟨j + 1, by go_num, by omega, trivial⟩
                case measure => simp [intOf]; omega
              · have hj' : ¬ (j : Int) < k := by omega
                go_wp2
                go_ret
                exact ⟨rfl, bel7⟩
          · have HQ2b : Hid (Int.tdiv (8388608 : Int) pr = k) := HQ2.out (by omega)
            have HQ4b : Hid (0 < n → ∃ q : Nat, Int.tdiv (100000 : Int) n = q ∧ k + 1 ≤ q ∧ q ≤ 100000) := fun h => HQ4.out h (by omega)
            obtain ⟨sm, hsm⟩ : ∃ sm : Nat, (m : Int) + n = sm := ⟨m + n, by omega⟩
            obtain ⟨sc, hsc⟩ : ∃ sc : Nat, (ck : Int) + pr = sc := ⟨ck + pr, by omega⟩
            have hmul : ((k : Int) + 1) * (n : Int) = sm := by rw [HMUL.out, hsm]
            have hmc1 : ((k : Int) + 1) * (pr : Int) = sc := by rw [HMC1.out, hsc]
            rw [hsm] at hp5 hc
            rw [hsc] at hp5 hcc
            have hscb : (sc : Int) ≤ 20000000 := by omega
            have B49 : decide ((sm : Int) ≤ 100000) = true := decide_eq_true (by omega)
            have Bk : decide ((k : Int) < 32768) = true := decide_eq_true (by omega)
            have hkb : (k : Int) ≤ 32767 := by omega
            have hsmb : (sm : Int) ≤ 100000 := by omega
            clear hsm hsc hkn hlt hlr hTs' hc hcc hlt'
            have hp0 : ¬ (pr : Int) = 0 := by omega
            have hp3 : ¬ pr = 0 := by omega
            have hp4 : 0 < pr := by omega
            have hp5' : (0 : Int) < pr := by omega
            by_cases hn0 : 0 < n
            · have hn1 : ¬ (n : Int) = 0 := by omega
              have hn3 : ¬ n = 0 := by omega
              obtain ⟨q0, hq0, hq3, hq5⟩ := HQ4b.out hn0
              have B35 : decide ((k : Int) < q0) = true := decide_eq_true (by omega)
              have B35' : decide (k < q0) = true := decide_eq_true (by omega)
              have hq4 : (k : Int) < q0 := by omega
              have Bn : decide ((0 : Int) < n) = true := decide_eq_true (by omega)
              have hq0b : (q0 : Int) ≤ 100000 := by omega
              have HQ9 : Hid (k + 1 ≤ q0) := hq3
              clear hq3 hq5
              by_cases hq6 : q0 < 32768
              · have B33 : decide ((q0 : Int) < 32768) = true := decide_eq_true (by omega)
                clear hq6
                go_upto_region 35 with fail
                clear hq0
                have hq2 := HQ2b.out
                go_wp2_with fail
                clear hq2
                refine (zzRanges P _ _ _ _ hp5).mono ?_
                rintro e w6 ⟨rfl, hw⟩
                obtain rfl := hw.symm
                go_wp2_with fail
                refine (zzCost P _ _ _ _ hp5).mono ?_
                rintro e w6 ⟨rfl, hw⟩
                obtain rfl := hw.symm
                go_wp2_with fail
                refine (ZX _ _ ht5 hR5).mono ?_
                rintro e w6 ⟨rfl, hb6⟩
                have k6 : Keeps (fun _ => False) w5 w6 := Keeps.of_below hb6
                have hp6 := hp5.kept k6 (fun h => h)
                have hb6' := hb5.kept k6 (fun h => h) (fun _ _ h => h)
                have bel6 : Below w2.heap.size w2 w6 := bel5.trans (k6.below bel5.size (fun _ h => h.elim))
                have ZT := zzText _ P _ _ _ _ _ _ w6 hp6 hb6'
                rw [← HT.out] at ZT
                go_wp2_with fail
                refine ZT.mono ?_
                rintro e w7 ⟨rfl, k7⟩
                have bel7 : Below w.heap.size w w7 := bel2.trans ((bel6.trans (k7.below bel6.size (fun j hj => (hb6'.base j hj).1))).mono bel2.size)
                obtain ⟨g, hg⟩ : ∃ g, g = k * u := ⟨_, rfl⟩
                have hgu : (k : Int) * (u : Int) = g := mul_cast k u g hg.symm
                have hTs' := HTS.out
                rw [← hg] at hTs'
                have HG : Hid (g = k * u) := hg
                have hgb : (g : Int) ≤ 1000000000 := by have h := HLR.out; rw [HUU.out, ← hg] at h; omega
                have B60 : ((g : Int) != g) = false := by simp
                clear hg
                go_wp2
                go_loopw [24] (fun a wr => ∃ j : Nat, a = .int .i64 j ∧ j ≤ k ∧ wr = w7)
                  (fun a _ => k - (intOf a).toNat)
                case atStart => exact ⟨0, rfl, by omega, rfl⟩
                case round =>
                  obtain ⟨j, rfl, hjk, hw⟩ := hrel
                  obtain rfl := hw.symm
                  by_cases hj : j < k
                  · have hj' : (j : Int) < k := by omega
                    obtain ⟨x0, hx0⟩ : ∃ x0, x0 = j * u := ⟨_, rfl⟩
                    obtain ⟨x1, hx1⟩ : ∃ x1, x1 = (j + 1) * u := ⟨_, rfl⟩
                    have hy0 : (j : Int) * (u : Int) = x0 := mul_cast j u x0 hx0.symm
                    have hy1 : ((j : Int) + 1) * (u : Int) = x1 := by rw [mul_next j u x0 hx0.symm, hx1, Nat.succ_mul, ← hx0, Int.natCast_add]
                    have hle : x0 ≤ x1 := by rw [hx0, hx1]; exact Nat.mul_le_mul_right u (by omega)
                    have hxg : x1 ≤ g := by rw [hx1, HG.out]; exact Nat.mul_le_mul_right u hj
                    have hE : T.extract x0 x1 = S := by rw [hx0, hx1]; exact HTE.out j hj
                    clear hx0 hx1
                    go_wp2
                    go_roundw
                    case rel => exact ⟨j + 1, by go_num, by omega, trivial⟩
                    case measure => simp [intOf]; omega
                  · have hj' : ¬ (j : Int) < k := by omega
                    go_wp2
                    go_ret
                    exact ⟨rfl, bel7⟩
              · have B33 : decide ((q0 : Int) < 32768) = false := decide_eq_false (by omega)
                clear hq6
                go_upto_region 35 with fail
                clear hq0
                have hq2 := HQ2b.out
                go_wp2_with fail
                clear hq2
                refine (zzRanges P _ _ _ _ hp5).mono ?_
                rintro e w6 ⟨rfl, hw⟩
                obtain rfl := hw.symm
                go_wp2_with fail
                refine (zzCost P _ _ _ _ hp5).mono ?_
                rintro e w6 ⟨rfl, hw⟩
                obtain rfl := hw.symm
                go_wp2_with fail
                refine (ZX _ _ ht5 hR5).mono ?_
                rintro e w6 ⟨rfl, hb6⟩
                have k6 : Keeps (fun _ => False) w5 w6 := Keeps.of_below hb6
                have hp6 := hp5.kept k6 (fun h => h)
                have hb6' := hb5.kept k6 (fun h => h) (fun _ _ h => h)
                have bel6 : Below w2.heap.size w2 w6 := bel5.trans (k6.below bel5.size (fun _ h => h.elim))
                have ZT := zzText _ P _ _ _ _ _ _ w6 hp6 hb6'
                rw [← HT.out] at ZT
                go_wp2_with fail
                refine ZT.mono ?_
                rintro e w7 ⟨rfl, k7⟩
                have bel7 : Below w.heap.size w w7 := bel2.trans ((bel6.trans (k7.below bel6.size (fun j hj => (hb6'.base j hj).1))).mono bel2.size)
                obtain ⟨g, hg⟩ : ∃ g, g = k * u := ⟨_, rfl⟩
                have hgu : (k : Int) * (u : Int) = g := mul_cast k u g hg.symm
                have hTs' := HTS.out
                rw [← hg] at hTs'
                have HG : Hid (g = k * u) := hg
                have hgb : (g : Int) ≤ 1000000000 := by have h := HLR.out; rw [HUU.out, ← hg] at h; omega
                have B60 : ((g : Int) != g) = false := by simp
                clear hg
                go_wp2
                go_loopw [24] (fun a wr => ∃ j : Nat, a = .int .i64 j ∧ j ≤ k ∧ wr = w7)
                  (fun a _ => k - (intOf a).toNat)
                case atStart => exact ⟨0, rfl, by omega, rfl⟩
                case round =>
                  obtain ⟨j, rfl, hjk, hw⟩ := hrel
                  obtain rfl := hw.symm
                  by_cases hj : j < k
                  · have hj' : (j : Int) < k := by omega
                    obtain ⟨x0, hx0⟩ : ∃ x0, x0 = j * u := ⟨_, rfl⟩
                    obtain ⟨x1, hx1⟩ : ∃ x1, x1 = (j + 1) * u := ⟨_, rfl⟩
                    have hy0 : (j : Int) * (u : Int) = x0 := mul_cast j u x0 hx0.symm
                    have hy1 : ((j : Int) + 1) * (u : Int) = x1 := by rw [mul_next j u x0 hx0.symm, hx1, Nat.succ_mul, ← hx0, Int.natCast_add]
                    have hle : x0 ≤ x1 := by rw [hx0, hx1]; exact Nat.mul_le_mul_right u (by omega)
                    have hxg : x1 ≤ g := by rw [hx1, HG.out]; exact Nat.mul_le_mul_right u hj
                    have hE : T.extract x0 x1 = S := by rw [hx0, hx1]; exact HTE.out j hj
                    clear hx0 hx1
                    go_wp2
                    go_roundw
                    case rel => exact ⟨j + 1, by go_num, by omega, trivial⟩
                    case measure => simp [intOf]; omega
                  · have hj' : ¬ (j : Int) < k := by omega
                    go_wp2
                    go_ret
                    exact ⟨rfl, bel7⟩
            · have Bn : decide ((0 : Int) < n) = false := decide_eq_false (by omega)
              have hn2 : ¬ (0 : Int) < n := by omega
              go_upto_region 35 with fail
              have hq2 := HQ2b.out
              go_wp2_with fail
              clear hq2
              refine (zzRanges P _ _ _ _ hp5).mono ?_
              rintro e w6 ⟨rfl, hw⟩
              obtain rfl := hw.symm
              go_wp2_with fail
              refine (zzCost P _ _ _ _ hp5).mono ?_
              rintro e w6 ⟨rfl, hw⟩
              obtain rfl := hw.symm
              go_wp2_with fail
              refine (ZX _ _ ht5 hR5).mono ?_
              rintro e w6 ⟨rfl, hb6⟩
              have k6 : Keeps (fun _ => False) w5 w6 := Keeps.of_below hb6
              have hp6 := hp5.kept k6 (fun h => h)
              have hb6' := hb5.kept k6 (fun h => h) (fun _ _ h => h)
              have bel6 : Below w2.heap.size w2 w6 := bel5.trans (k6.below bel5.size (fun _ h => h.elim))
              have ZT := zzText _ P _ _ _ _ _ _ w6 hp6 hb6'
              rw [← HT.out] at ZT
              go_wp2_with fail
              refine ZT.mono ?_
              rintro e w7 ⟨rfl, k7⟩
              have bel7 : Below w.heap.size w w7 := bel2.trans ((bel6.trans (k7.below bel6.size (fun j hj => (hb6'.base j hj).1))).mono bel2.size)
              obtain ⟨g, hg⟩ : ∃ g, g = k * u := ⟨_, rfl⟩
              have hgu : (k : Int) * (u : Int) = g := mul_cast k u g hg.symm
              have hTs' := HTS.out
              rw [← hg] at hTs'
              have HG : Hid (g = k * u) := hg
              have hgb : (g : Int) ≤ 1000000000 := by have h := HLR.out; rw [HUU.out, ← hg] at h; omega
              have B60 : ((g : Int) != g) = false := by simp
              clear hg
              go_wp2
              go_loopw [24] (fun a wr => ∃ j : Nat, a = .int .i64 j ∧ j ≤ k ∧ wr = w7)
                (fun a _ => k - (intOf a).toNat)
              case atStart => exact ⟨0, rfl, by omega, rfl⟩
              case round =>
                obtain ⟨j, rfl, hjk, hw⟩ := hrel
                obtain rfl := hw.symm
                by_cases hj : j < k
                · have hj' : (j : Int) < k := by omega
                  obtain ⟨x0, hx0⟩ : ∃ x0, x0 = j * u := ⟨_, rfl⟩
                  obtain ⟨x1, hx1⟩ : ∃ x1, x1 = (j + 1) * u := ⟨_, rfl⟩
                  have hy0 : (j : Int) * (u : Int) = x0 := mul_cast j u x0 hx0.symm
                  have hy1 : ((j : Int) + 1) * (u : Int) = x1 := by rw [mul_next j u x0 hx0.symm, hx1, Nat.succ_mul, ← hx0, Int.natCast_add]
                  have hle : x0 ≤ x1 := by rw [hx0, hx1]; exact Nat.mul_le_mul_right u (by omega)
                  have hxg : x1 ≤ g := by rw [hx1, HG.out]; exact Nat.mul_le_mul_right u hj
                  have hE : T.extract x0 x1 = S := by rw [hx0, hx1]; exact HTE.out j hj
                  clear hx0 hx1
                  go_wp2
                  go_roundw
                  case rel => exact ⟨j + 1, by go_num, by omega, trivial⟩
                  case measure => simp [intOf]; omega
                · have hj' : ¬ (j : Int) < k := by omega
                  go_wp2
                  go_ret
                  exact ⟨rfl, bel7⟩
          · go_wp2
            go_roundw
            case rel =>
              refine ⟨k + 1, p5, v5, by go_num, rfl, ?_, ?_, ?_, ?_, bel5⟩
              · rw [HS1.out]; omega
              · rw [HS2.out]; omega
              · rw [HS1.out, HS2.out, Int.natCast_add, Int.natCast_add]; exact hp5
              · rw [HRL.out]; exact hb5
            case measure => simp [intOf]; omega
      · obtain rfl := hw.symm
        go_wp2
        go_ret
        exact ⟨rfl, Below.refl _ _⟩
    | some a2 =>
      have J1 := h1
      have h2b := h2
      have belb : Below w.heap.size w w := Below.refl _ _
      obtain ⟨cs2, hcs2, mk2⟩ := make_ints n (by omega) w
      have kc : Keeps (fun _ => False) w (w.alloc (.cells cs2 21)) := (Keeps.refl _ w).alloc _
      obtain ⟨wd, cp2, J2, kd⟩ := copy_ints 3 w.heap.size n c2 (some a2) ys cs2 (w.alloc (.cells cs2 21)) (heap_alloc_new w _) hcs2 (h2b.kept kc (fun _ _ _ h => h)) hl.symm
      have bel0 : Below w.heap.size w wd := (belb.trans (kc.below belb.size (fun _ h => h.elim))).trans (kd.below (by simp) (fun k hk => by have := belb.size; omega))
      have J1 : Ints none xs wd := ⟨fun j x hx => by
          obtain ⟨A, o, ha, _⟩ := J1.at_ j x hx
          cases ha⟩
      go_enter Tryf.func4, Tryf.ntmps4
      go_wp2_with fail
      refine (zzBytes7 true pos none (some a2) n n c1 c2 w).mono ?_
      rintro e w1 ⟨rfl | rfl, hw⟩
      · obtain rfl := hw.symm
        go_wp2_with fail
        refine (Z _ _ _ _ _ J1 J2).mono ?_
        rintro e w2 ⟨rfl, hR, hb2⟩
        have bel2 := bel0.trans (hb2.mono bel0.size)
        go_wp2_with fail
        refine (zzNewBuilder [] w2 (by simp)).mono ?_
        rintro e w3 ⟨rfl, p0, v0, hB, hb3⟩
        have hBl := Keeps.lt hB.heap
        go_wp2_with fail
        refine (zzNewParser (some ⟨w2.heap.size, 0, none⟩) w3).mono ?_
        rintro e w4 ⟨P, rfl, hP, hpar, hb4⟩
        have hB4 : Bld w2.heap.size w2.heap.size p0 v0 [] w4 := hB.kept (Keeps.of_below (S := fun _ => False) hb4) (fun h => h) (fun _ _ h => h)
        have bel4 : Below w2.heap.size w2 w4 := hb3.trans (hb4.mono hb3.size)
        have ht2 : w2.cell? ⟨2, 15, none⟩ = some (.int .u8 4) := (bel2.cell (p := ⟨2, 15, none⟩) (World.block_lt_of_cell? _ _ ht)).trans ht
        have h2P : 2 ≠ P := by
          have a1 := World.block_lt_of_cell? _ _ ht2
          have a2 := hb3.size
          simp only at a1
          omega
        have hRP := show _ ≠ P from Nat.ne_of_lt (Nat.lt_of_le_of_lt hb2.size (Nat.lt_of_lt_of_le hBl hP))
        go_wp2
        go_loopw [15, 16] (fun a r wr => ∃ (k : Nat) (p v : Value), a = .int .i64 k ∧ r = .bool false ∧ k * n ≤ 100000 ∧ k * pr ≤ 8388608 ∧ Par P (.pointer (some ⟨w2.heap.size, 0, none⟩)) ((k * n : Nat) : Int) ((k * pr : Nat) : Int) wr ∧ Bld w2.heap.size w2.heap.size p v (rep t k) wr ∧ Below w2.heap.size w2 wr)
          (fun a _ _ => 32768 - (intOf a).toNat)
        case atStart => exact ⟨0, p0, v0, rfl, rfl, by omega, by omega, by simpa using hpar, hB4, bel4⟩
        case round =>
          obtain ⟨k, p, v, rfl, rfl, hkn, hkc, hpar, hbld, hbel⟩ := hrel
          have hF' : F.answers wr.tape := by rw [hbel.tape, bel2.tape]; exact hF
          have hlt : k < 32768 := by
            have := Nat.mul_le_mul_left k hpr4
            omega
          have hlr : (rep t k).length ≤ 1000000000 := by
            rw [rep_len]
            have h1 := Nat.mul_le_mul_left k HU.out.2
            have h2 : k * (29 * n + 20) = 29 * (k * n) + 20 * k := by rw [Nat.mul_add, Nat.mul_left_comm, Nat.mul_comm k 20]
            omega
          have HLR : Hid (k * t.length ≤ 1000000000) := by rw [← rep_len]; exact hlr
          have hk0 : Keeps (fun _ => False) w2 wr := Keeps.of_below hbel
          have hRr := hR.kept hk0 (fun h => h)
          have htr := hk0.cell ht2 (fun h => h)
          have HQ1 : Hid (100000 < k * n + n → Int.tdiv (100000 : Int) n = k) := fun h => quo_eq 100000 n k hkn h
          have HQ2 : Hid (8388608 < k * pr + pr → Int.tdiv (8388608 : Int) pr = k) := fun h => quo_eq 8388608 pr k hkc h
          have HQ3 : Hid (∃ q : Nat, Int.tdiv (8388608 : Int) pr = q ∧ k ≤ q ∧ q ≤ 8388608) := quo_ge 8388608 pr k (by omega) hkc
          have HQ4 : Hid (0 < n → k * n + n ≤ 100000 → ∃ q : Nat, Int.tdiv (100000 : Int) n = q ∧ k + 1 ≤ q ∧ q ≤ 100000) := fun h h' => quo_ge 100000 n (k + 1) h (by rw [Nat.succ_mul]; exact h')
          have HS1 : Hid ((k + 1) * n = k * n + n) := Nat.succ_mul k n
          have HS2 : Hid ((k + 1) * pr = k * pr + pr) := Nat.succ_mul k pr
          obtain ⟨T, hT, hTs, hTe⟩ := rep_text t k
          have HT : Hid (T = ⟨(rep t k).toArray⟩) := hT
          have HTE : Hid (∀ j, j < k → T.extract (j * t.length) ((j + 1) * t.length) = S) := by rw [HSS.out]; exact hTe
          have HRL : Hid (rep t (k + 1) = rep t k ++ t) := rfl
          have hlt' : (k : Int) < 32768 := by omega
          clear hT hTe
          generalize hm0 : k * n = m at hkn hpar HQ1 HQ4 HS1
          generalize hc0 : k * pr = ck at hkc hpar HQ2 HS2
          have HMUL : Hid (((k : Int) + 1) * (n : Int) = m + n) := mul_next k n m hm0
          have hmc := mul_cast k pr ck hc0
          have HMC1 : Hid (((k : Int) + 1) * (pr : Int) = ck + pr) := mul_next k pr ck hc0
          clear hm0 hc0
          have hTs' : T.size = k * u := by rw [hTs, HUU.out]
          have HTS : Hid (T.size = k * u) := hTs'
          clear hTs
          rw [HUU.out] at HTE
          go_wp2_with fail
          refine (on_step' F w2.heap.size P w2.heap.size _ n pr p v zs t m ck pos (rep t k) wr HPR.out hzl HTX.out hF' hpar hbld hlr hbel.size (by omega) (by omega) (by omega) (by omega) (by omega) hfit hRr htr hRP h2P).mono ?_
          rintro e w5 ⟨p5, v5, l5, c5, hp5, hb5, k5, he⟩
          have HKC : Hid (ck ≤ 8388608) := hkc
          have hkc' : (ck : Int) ≤ 8388608 := by omega
          clear hkc
          have bel5 : Below w2.heap.size w2 w5 := hbel.trans (k5.below hbel.size (by
            rintro j (rfl | hj)
            · omega
            · exact Own.base hbld (Nat.le_refl _) j hj))
          have hk5 : Keeps (fun _ => False) w2 w5 := Keeps.of_below bel5
          have hR5 := hR.kept hk5 (fun h => h)
          have ht5 := hk5.cell ht2 (fun h => h)
          rcases he with ⟨hc, ⟨q, rfl⟩, rfl, rfl⟩ | ⟨hc, hcc, ⟨q, rfl⟩, rfl, rfl⟩ | ⟨hc, hcc, rfl, rfl, rfl⟩
          · have hn0 : 0 < n := by omega
            have hq0 := HQ1.out (by omega)
            obtain ⟨sm, hsm⟩ : ∃ sm : Nat, (m : Int) + n = sm := ⟨m + n, by omega⟩
            obtain ⟨sc, hsc⟩ : ∃ sc : Nat, (ck : Int) + pr = sc := ⟨ck + pr, by omega⟩
            have hmul : ((k : Int) + 1) * (n : Int) = sm := by rw [HMUL.out, hsm]
            have hmc1 : ((k : Int) + 1) * (pr : Int) = sc := by rw [HMC1.out, hsc]
            rw [hsm] at hp5 hc
            have hsmb : (sm : Int) ≤ 200000 := by omega
            have hscb : (sc : Int) ≤ 20000000 := by omega
            have B49 : decide ((sm : Int) ≤ 100000) = false := decide_eq_false (by omega)
            have Bk : decide ((k : Int) < 32768) = true := decide_eq_true (by omega)
            have Bn : decide ((0 : Int) < n) = true := decide_eq_true (by omega)
            have hkb : (k : Int) ≤ 32767 := by omega
            clear hsm hsc hkn hlt hlr hTs' hc hlt'
            have hn1 : ¬ (n : Int) = 0 := by omega
            have hn3 : ¬ n = 0 := by omega
            go_upto_region 35 with fail
            clear hq0
            obtain ⟨q2, hq2, hq3, hq5⟩ := HQ3.out
            have HQ5 : Hid (q2 ≤ 8388608) := hq5
            have hq8 : (q2 : Int) ≤ 9000000 := by omega
            have hq9 : q2 ≤ 9000000 := by omega
            clear hq5 hq9
            have B35 : decide ((q2 : Int) < k) = false := decide_eq_false (by omega)
            have B35' : decide (q2 < k) = false := decide_eq_false (by omega)
            have hq4 : ¬ (q2 : Int) < k := by omega
            clear hq3
            have hp0 : ¬ (pr : Int) = 0 := by omega
            have hp3 : ¬ pr = 0 := by omega
            have hp4 : 0 < pr := by omega
            have hp5' : (0 : Int) < pr := by omega
            go_wp2_with fail
            clear hq2
            refine (zzRanges P _ _ _ _ hp5).mono ?_
            rintro e w6 ⟨rfl, hw⟩
            obtain rfl := hw.symm
            go_wp2_with fail
            refine (zzCost P _ _ _ _ hp5).mono ?_
            rintro e w6 ⟨rfl, hw⟩
            obtain rfl := hw.symm
            go_wp2_with fail
            refine (ZX _ _ ht5 hR5).mono ?_
            rintro e w6 ⟨rfl, hb6⟩
            have k6 : Keeps (fun _ => False) w5 w6 := Keeps.of_below hb6
            have hp6 := hp5.kept k6 (fun h => h)
            have hb6' := hb5.kept k6 (fun h => h) (fun _ _ h => h)
            have bel6 : Below w2.heap.size w2 w6 := bel5.trans (k6.below bel5.size (fun _ h => h.elim))
            have ZT := zzText _ P _ _ _ _ _ _ w6 hp6 hb6'
            rw [← HT.out] at ZT
            go_wp2_with fail
            refine ZT.mono ?_
            rintro e w7 ⟨rfl, k7⟩
            have bel7 : Below w.heap.size w w7 := bel2.trans ((bel6.trans (k7.below bel6.size (fun j hj => (hb6'.base j hj).1))).mono bel2.size)
            obtain ⟨g, hg⟩ : ∃ g, g = k * u := ⟨_, rfl⟩
            have hgu : (k : Int) * (u : Int) = g := mul_cast k u g hg.symm
            have hTs' := HTS.out
            rw [← hg] at hTs'
            have HG : Hid (g = k * u) := hg
            have hgb : (g : Int) ≤ 1000000000 := by have h := HLR.out; rw [HUU.out, ← hg] at h; omega
            have B60 : ((g : Int) != g) = false := by simp
            clear hg
            go_wp2
            go_loopw [24] (fun a wr => ∃ j : Nat, a = .int .i64 j ∧ j ≤ k ∧ wr = w7)
              (fun a _ => k - (intOf a).toNat)
            case atStart => exact ⟨0, rfl, by omega, rfl⟩
            case round =>
              obtain ⟨j, rfl, hjk, hw⟩ := hrel
              obtain rfl := hw.symm
              by_cases hj : j < k
              · have hj' : (j : Int) < k := by omega
                obtain ⟨x0, hx0⟩ : ∃ x0, x0 = j * u := ⟨_, rfl⟩
                obtain ⟨x1, hx1⟩ : ∃ x1, x1 = (j + 1) * u := ⟨_, rfl⟩
                have hy0 : (j : Int) * (u : Int) = x0 := mul_cast j u x0 hx0.symm
                have hy1 : ((j : Int) + 1) * (u : Int) = x1 := by rw [mul_next j u x0 hx0.symm, hx1, Nat.succ_mul, ← hx0, Int.natCast_add]
                have hle : x0 ≤ x1 := by rw [hx0, hx1]; exact Nat.mul_le_mul_right u (by omega)
                have hxg : x1 ≤ g := by rw [hx1, HG.out]; exact Nat.mul_le_mul_right u hj
                have hE : T.extract x0 x1 = S := by rw [hx0, hx1]; exact HTE.out j hj
                clear hx0 hx1
                go_wp2
                go_roundw
                case rel => exact ⟨j + 1, by go_num, by omega, trivial⟩
                case measure => simp [intOf]; omega
              · have hj' : ¬ (j : Int) < k := by omega
                go_wp2
                go_ret
                exact ⟨rfl, bel7⟩
          · have HQ2b : Hid (Int.tdiv (8388608 : Int) pr = k) := HQ2.out (by omega)
            have HQ4b : Hid (0 < n → ∃ q : Nat, Int.tdiv (100000 : Int) n = q ∧ k + 1 ≤ q ∧ q ≤ 100000) := fun h => HQ4.out h (by omega)
            obtain ⟨sm, hsm⟩ : ∃ sm : Nat, (m : Int) + n = sm := ⟨m + n, by omega⟩
            obtain ⟨sc, hsc⟩ : ∃ sc : Nat, (ck : Int) + pr = sc := ⟨ck + pr, by omega⟩
            have hmul : ((k : Int) + 1) * (n : Int) = sm := by rw [HMUL.out, hsm]
            have hmc1 : ((k : Int) + 1) * (pr : Int) = sc := by rw [HMC1.out, hsc]
            rw [hsm] at hp5 hc
            rw [hsc] at hp5 hcc
            have hscb : (sc : Int) ≤ 20000000 := by omega
            have B49 : decide ((sm : Int) ≤ 100000) = true := decide_eq_true (by omega)
            have Bk : decide ((k : Int) < 32768) = true := decide_eq_true (by omega)
            have hkb : (k : Int) ≤ 32767 := by omega
            have hsmb : (sm : Int) ≤ 100000 := by omega
            clear hsm hsc hkn hlt hlr hTs' hc hcc hlt'
            have hp0 : ¬ (pr : Int) = 0 := by omega
            have hp3 : ¬ pr = 0 := by omega
            have hp4 : 0 < pr := by omega
            have hp5' : (0 : Int) < pr := by omega
            by_cases hn0 : 0 < n
            · have hn1 : ¬ (n : Int) = 0 := by omega
              have hn3 : ¬ n = 0 := by omega
              obtain ⟨q0, hq0, hq3, hq5⟩ := HQ4b.out hn0
              have B35 : decide ((k : Int) < q0) = true := decide_eq_true (by omega)
              have B35' : decide (k < q0) = true := decide_eq_true (by omega)
              have hq4 : (k : Int) < q0 := by omega
              have Bn : decide ((0 : Int) < n) = true := decide_eq_true (by omega)
              have hq0b : (q0 : Int) ≤ 100000 := by omega
              have HQ9 : Hid (k + 1 ≤ q0) := hq3
              clear hq3 hq5
              by_cases hq6 : q0 < 32768
              · have B33 : decide ((q0 : Int) < 32768) = true := decide_eq_true (by omega)
                clear hq6
                go_upto_region 35 with fail
                clear hq0
                have hq2 := HQ2b.out
                go_wp2_with fail
                clear hq2
                refine (zzRanges P _ _ _ _ hp5).mono ?_
                rintro e w6 ⟨rfl, hw⟩
                obtain rfl := hw.symm
                go_wp2_with fail
                refine (zzCost P _ _ _ _ hp5).mono ?_
                rintro e w6 ⟨rfl, hw⟩
                obtain rfl := hw.symm
                go_wp2_with fail
                refine (ZX _ _ ht5 hR5).mono ?_
                rintro e w6 ⟨rfl, hb6⟩
                have k6 : Keeps (fun _ => False) w5 w6 := Keeps.of_below hb6
                have hp6 := hp5.kept k6 (fun h => h)
                have hb6' := hb5.kept k6 (fun h => h) (fun _ _ h => h)
                have bel6 : Below w2.heap.size w2 w6 := bel5.trans (k6.below bel5.size (fun _ h => h.elim))
                have ZT := zzText _ P _ _ _ _ _ _ w6 hp6 hb6'
                rw [← HT.out] at ZT
                go_wp2_with fail
                refine ZT.mono ?_
                rintro e w7 ⟨rfl, k7⟩
                have bel7 : Below w.heap.size w w7 := bel2.trans ((bel6.trans (k7.below bel6.size (fun j hj => (hb6'.base j hj).1))).mono bel2.size)
                obtain ⟨g, hg⟩ : ∃ g, g = k * u := ⟨_, rfl⟩
                have hgu : (k : Int) * (u : Int) = g := mul_cast k u g hg.symm
                have hTs' := HTS.out
                rw [← hg] at hTs'
                have HG : Hid (g = k * u) := hg
                have hgb : (g : Int) ≤ 1000000000 := by have h := HLR.out; rw [HUU.out, ← hg] at h; omega
                have B60 : ((g : Int) != g) = false := by simp
                clear hg
                go_wp2
                go_loopw [24] (fun a wr => ∃ j : Nat, a = .int .i64 j ∧ j ≤ k ∧ wr = w7)
                  (fun a _ => k - (intOf a).toNat)
                case atStart => exact ⟨0, rfl, by omega, rfl⟩
                case round =>
                  obtain ⟨j, rfl, hjk, hw⟩ := hrel
                  obtain rfl := hw.symm
                  by_cases hj : j < k
                  · have hj' : (j : Int) < k := by omega
                    obtain ⟨x0, hx0⟩ : ∃ x0, x0 = j * u := ⟨_, rfl⟩
                    obtain ⟨x1, hx1⟩ : ∃ x1, x1 = (j + 1) * u := ⟨_, rfl⟩
                    have hy0 : (j : Int) * (u : Int) = x0 := mul_cast j u x0 hx0.symm
                    have hy1 : ((j : Int) + 1) * (u : Int) = x1 := by rw [mul_next j u x0 hx0.symm, hx1, Nat.succ_mul, ← hx0, Int.natCast_add]
                    have hle : x0 ≤ x1 := by rw [hx0, hx1]; exact Nat.mul_le_mul_right u (by omega)
                    have hxg : x1 ≤ g := by rw [hx1, HG.out]; exact Nat.mul_le_mul_right u hj
                    have hE : T.extract x0 x1 = S := by rw [hx0, hx1]; exact HTE.out j hj
                    clear hx0 hx1
                    go_wp2
                    go_roundw
                    case rel => exact ⟨j + 1, by go_num, by omega, trivial⟩
                    case measure => simp [intOf]; omega
                  · have hj' : ¬ (j : Int) < k := by omega
                    go_wp2
                    go_ret
                    exact ⟨rfl, bel7⟩
              · have B33 : decide ((q0 : Int) < 32768) = false := decide_eq_false (by omega)
                clear hq6
                go_upto_region 35 with fail
                clear hq0
                have hq2 := HQ2b.out
                go_wp2_with fail
                clear hq2
                refine (zzRanges P _ _ _ _ hp5).mono ?_
                rintro e w6 ⟨rfl, hw⟩
                obtain rfl := hw.symm
                go_wp2_with fail
                refine (zzCost P _ _ _ _ hp5).mono ?_
                rintro e w6 ⟨rfl, hw⟩
                obtain rfl := hw.symm
                go_wp2_with fail
                refine (ZX _ _ ht5 hR5).mono ?_
                rintro e w6 ⟨rfl, hb6⟩
                have k6 : Keeps (fun _ => False) w5 w6 := Keeps.of_below hb6
                have hp6 := hp5.kept k6 (fun h => h)
                have hb6' := hb5.kept k6 (fun h => h) (fun _ _ h => h)
                have bel6 : Below w2.heap.size w2 w6 := bel5.trans (k6.below bel5.size (fun _ h => h.elim))
                have ZT := zzText _ P _ _ _ _ _ _ w6 hp6 hb6'
                rw [← HT.out] at ZT
                go_wp2_with fail
                refine ZT.mono ?_
                rintro e w7 ⟨rfl, k7⟩
                have bel7 : Below w.heap.size w w7 := bel2.trans ((bel6.trans (k7.below bel6.size (fun j hj => (hb6'.base j hj).1))).mono bel2.size)
                obtain ⟨g, hg⟩ : ∃ g, g = k * u := ⟨_, rfl⟩
                have hgu : (k : Int) * (u : Int) = g := mul_cast k u g hg.symm
                have hTs' := HTS.out
                rw [← hg] at hTs'
                have HG : Hid (g = k * u) := hg
                have hgb : (g : Int) ≤ 1000000000 := by have h := HLR.out; rw [HUU.out, ← hg] at h; omega
                have B60 : ((g : Int) != g) = false := by simp
                clear hg
                go_wp2
                go_loopw [24] (fun a wr => ∃ j : Nat, a = .int .i64 j ∧ j ≤ k ∧ wr = w7)
                  (fun a _ => k - (intOf a).toNat)
                case atStart => exact ⟨0, rfl, by omega, rfl⟩
                case round =>
                  obtain ⟨j, rfl, hjk, hw⟩ := hrel
                  obtain rfl := hw.symm
                  by_cases hj : j < k
                  · have hj' : (j : Int) < k := by omega
                    obtain ⟨x0, hx0⟩ : ∃ x0, x0 = j * u := ⟨_, rfl⟩
                    obtain ⟨x1, hx1⟩ : ∃ x1, x1 = (j + 1) * u := ⟨_, rfl⟩
                    have hy0 : (j : Int) * (u : Int) = x0 := mul_cast j u x0 hx0.symm
                    have hy1 : ((j : Int) + 1) * (u : Int) = x1 := by rw [mul_next j u x0 hx0.symm, hx1, Nat.succ_mul, ← hx0, Int.natCast_add]
                    have hle : x0 ≤ x1 := by rw [hx0, hx1]; exact Nat.mul_le_mul_right u (by omega)
                    have hxg : x1 ≤ g := by rw [hx1, HG.out]; exact Nat.mul_le_mul_right u hj
                    have hE : T.extract x0 x1 = S := by rw [hx0, hx1]; exact HTE.out j hj
                    clear hx0 hx1
                    go_wp2
                    go_roundw
                    case rel => exact ⟨j + 1, by go_num, by omega, trivial⟩
                    case measure => simp [intOf]; omega
                  · have hj' : ¬ (j : Int) < k := by omega
                    go_wp2
                    go_ret
                    exact ⟨rfl, bel7⟩
            · have Bn : decide ((0 : Int) < n) = false := decide_eq_false (by omega)
              have hn2 : ¬ (0 : Int) < n := by omega
              go_upto_region 35 with fail
              have hq2 := HQ2b.out
              go_wp2_with fail
              clear hq2
              refine (zzRanges P _ _ _ _ hp5).mono ?_
              rintro e w6 ⟨rfl, hw⟩
              obtain rfl := hw.symm
              go_wp2_with fail
              refine (zzCost P _ _ _ _ hp5).mono ?_
              rintro e w6 ⟨rfl, hw⟩
              obtain rfl := hw.symm
              go_wp2_with fail
              refine (ZX _ _ ht5 hR5).mono ?_
              rintro e w6 ⟨rfl, hb6⟩
              have k6 : Keeps (fun _ => False) w5 w6 := Keeps.of_below hb6
              have hp6 := hp5.kept k6 (fun h => h)
              have hb6' := hb5.kept k6 (fun h => h) (fun _ _ h => h)
              have bel6 : Below w2.heap.size w2 w6 := bel5.trans (k6.below bel5.size (fun _ h => h.elim))
              have ZT := zzText _ P _ _ _ _ _ _ w6 hp6 hb6'
              rw [← HT.out] at ZT
              go_wp2_with fail
              refine ZT.mono ?_
              rintro e w7 ⟨rfl, k7⟩
              have bel7 : Below w.heap.size w w7 := bel2.trans ((bel6.trans (k7.below bel6.size (fun j hj => (hb6'.base j hj).1))).mono bel2.size)
              obtain ⟨g, hg⟩ : ∃ g, g = k * u := ⟨_, rfl⟩
              have hgu : (k : Int) * (u : Int) = g := mul_cast k u g hg.symm
              have hTs' := HTS.out
              rw [← hg] at hTs'
              have HG : Hid (g = k * u) := hg
              have hgb : (g : Int) ≤ 1000000000 := by have h := HLR.out; rw [HUU.out, ← hg] at h; omega
              have B60 : ((g : Int) != g) = false := by simp
              clear hg
              go_wp2
              go_loopw [24] (fun a wr => ∃ j : Nat, a = .int .i64 j ∧ j ≤ k ∧ wr = w7)
                (fun a _ => k - (intOf a).toNat)
              case atStart => exact ⟨0, rfl, by omega, rfl⟩
              case round =>
                obtain ⟨j, rfl, hjk, hw⟩ := hrel
                obtain rfl := hw.symm
                by_cases hj : j < k
                · have hj' : (j : Int) < k := by omega
                  obtain ⟨x0, hx0⟩ : ∃ x0, x0 = j * u := ⟨_, rfl⟩
                  obtain ⟨x1, hx1⟩ : ∃ x1, x1 = (j + 1) * u := ⟨_, rfl⟩
                  have hy0 : (j : Int) * (u : Int) = x0 := mul_cast j u x0 hx0.symm
                  have hy1 : ((j : Int) + 1) * (u : Int) = x1 := by rw [mul_next j u x0 hx0.symm, hx1, Nat.succ_mul, ← hx0, Int.natCast_add]
                  have hle : x0 ≤ x1 := by rw [hx0, hx1]; exact Nat.mul_le_mul_right u (by omega)
                  have hxg : x1 ≤ g := by rw [hx1, HG.out]; exact Nat.mul_le_mul_right u hj
                  have hE : T.extract x0 x1 = S := by rw [hx0, hx1]; exact HTE.out j hj
                  clear hx0 hx1
                  go_wp2
                  go_roundw
                  case rel => exact ⟨j + 1, by go_num, by omega, trivial⟩
                  case measure => simp [intOf]; omega
                · have hj' : ¬ (j : Int) < k := by omega
                  go_wp2
                  go_ret
                  exact ⟨rfl, bel7⟩
          · go_wp2
            go_roundw
            case rel =>
              refine ⟨k + 1, p5, v5, by go_num, rfl, ?_, ?_, ?_, ?_, bel5⟩
              · rw [HS1.out]; omega
              · rw [HS2.out]; omega
              · rw [HS1.out, HS2.out, Int.natCast_add, Int.natCast_add]; exact hp5
              · rw [HRL.out]; exact hb5
            case measure => simp [intOf]; omega
      · obtain rfl := hw.symm
        go_wp2
        go_ret
        exact ⟨rfl, Below.refl _ _⟩
  | some a1 =>
    cases a2 with
    | none =>
      obtain ⟨cs1, hcs1, mk1⟩ := make_ints n (by omega) w
      have ka : Keeps (fun _ => False) w (w.alloc (.cells cs1 21)) := (Keeps.refl _ w).alloc _
      obtain ⟨wb, cp1, J1, kb⟩ := copy_ints 3 w.heap.size n c1 (some a1) xs cs1 (w.alloc (.cells cs1 21)) (heap_alloc_new w _) hcs1 (h1.kept ka (fun _ _ _ h => h)) HN.out
      have belb : Below w.heap.size w wb := (ka.below (Nat.le_refl _) (fun _ h => h.elim)).trans (kb.below (by simp) (fun k hk => by omega))
      have h2b : Ints none ys wb := ⟨fun j x hx => by
          obtain ⟨A, o, ha, hc⟩ := h2.at_ j x hx
          exact ⟨A, o, ha, (belb.cell (World.block_lt_of_cell? _ _ hc)).trans hc⟩⟩
      have J2 := h2b
      have bel0 := belb
      go_enter Tryf.func4, Tryf.ntmps4
      go_wp2_with fail
      refine (zzBytes7 true pos (some a1) none n n c1 c2 w).mono ?_
      rintro e w1 ⟨rfl | rfl, hw⟩
      · obtain rfl := hw.symm
        go_wp2_with fail
        refine (Z _ _ _ _ _ J1 J2).mono ?_
        rintro e w2 ⟨rfl, hR, hb2⟩
        have bel2 := bel0.trans (hb2.mono bel0.size)
        go_wp2_with fail
        refine (zzNewBuilder [] w2 (by simp)).mono ?_
        rintro e w3 ⟨rfl, p0, v0, hB, hb3⟩
        have hBl := Keeps.lt hB.heap
        go_wp2_with fail
        refine (zzNewParser (some ⟨w2.heap.size, 0, none⟩) w3).mono ?_
        rintro e w4 ⟨P, rfl, hP, hpar, hb4⟩
        have hB4 : Bld w2.heap.size w2.heap.size p0 v0 [] w4 := hB.kept (Keeps.of_below (S := fun _ => False) hb4) (fun h => h) (fun _ _ h => h)
        have bel4 : Below w2.heap.size w2 w4 := hb3.trans (hb4.mono hb3.size)
        have ht2 : w2.cell? ⟨2, 15, none⟩ = some (.int .u8 4) := (bel2.cell (p := ⟨2, 15, none⟩) (World.block_lt_of_cell? _ _ ht)).trans ht
        have h2P : 2 ≠ P := by
          have a1 := World.block_lt_of_cell? _ _ ht2
          have a2 := hb3.size
          simp only at a1
          omega
        have hRP := show _ ≠ P from Nat.ne_of_lt (Nat.lt_of_le_of_lt hb2.size (Nat.lt_of_lt_of_le hBl hP))
        go_wp2
        go_loopw [15, 16] (fun a r wr => ∃ (k : Nat) (p v : Value), a = .int .i64 k ∧ r = .bool false ∧ k * n ≤ 100000 ∧ k * pr ≤ 8388608 ∧ Par P (.pointer (some ⟨w2.heap.size, 0, none⟩)) ((k * n : Nat) : Int) ((k * pr : Nat) : Int) wr ∧ Bld w2.heap.size w2.heap.size p v (rep t k) wr ∧ Below w2.heap.size w2 wr)
          (fun a _ _ => 32768 - (intOf a).toNat)
        case atStart => exact ⟨0, p0, v0, rfl, rfl, by omega, by omega, by simpa using hpar, hB4, bel4⟩
        case round =>
          obtain ⟨k, p, v, rfl, rfl, hkn, hkc, hpar, hbld, hbel⟩ := hrel
          have hF' : F.answers wr.tape := by rw [hbel.tape, bel2.tape]; exact hF
          have hlt : k < 32768 := by
            have := Nat.mul_le_mul_left k hpr4
            omega
          have hlr : (rep t k).length ≤ 1000000000 := by
            rw [rep_len]
            have h1 := Nat.mul_le_mul_left k HU.out.2
            have h2 : k * (29 * n + 20) = 29 * (k * n) + 20 * k := by rw [Nat.mul_add, Nat.mul_left_comm, Nat.mul_comm k 20]
            omega
          have HLR : Hid (k * t.length ≤ 1000000000) := by rw [← rep_len]; exact hlr
          have hk0 : Keeps (fun _ => False) w2 wr := Keeps.of_below hbel
          have hRr := hR.kept hk0 (fun h => h)
          have htr := hk0.cell ht2 (fun h => h)
          have HQ1 : Hid (100000 < k * n + n → Int.tdiv (100000 : Int) n = k) := fun h => quo_eq 100000 n k hkn h
          have HQ2 : Hid (8388608 < k * pr + pr → Int.tdiv (8388608 : Int) pr = k) := fun h => quo_eq 8388608 pr k hkc h
          have HQ3 : Hid (∃ q : Nat, Int.tdiv (8388608 : Int) pr = q ∧ k ≤ q ∧ q ≤ 8388608) := quo_ge 8388608 pr k (by omega) hkc
          have HQ4 : Hid (0 < n → k * n + n ≤ 100000 → ∃ q : Nat, Int.tdiv (100000 : Int) n = q ∧ k + 1 ≤ q ∧ q ≤ 100000) := fun h h' => quo_ge 100000 n (k + 1) h (by rw [Nat.succ_mul]; exact h')
          have HS1 : Hid ((k + 1) * n = k * n + n) := Nat.succ_mul k n
          have HS2 : Hid ((k + 1) * pr = k * pr + pr) := Nat.succ_mul k pr
          obtain ⟨T, hT, hTs, hTe⟩ := rep_text t k
          have HT : Hid (T = ⟨(rep t k).toArray⟩) := hT
          have HTE : Hid (∀ j, j < k → T.extract (j * t.length) ((j + 1) * t.length) = S) := by rw [HSS.out]; exact hTe
          have HRL : Hid (rep t (k + 1) = rep t k ++ t) := rfl
          have hlt' : (k : Int) < 32768 := by omega
          clear hT hTe
          generalize hm0 : k * n = m at hkn hpar HQ1 HQ4 HS1
          generalize hc0 : k * pr = ck at hkc hpar HQ2 HS2
          have HMUL : Hid (((k : Int) + 1) * (n : Int) = m + n) := mul_next k n m hm0
          have hmc := mul_cast k pr ck hc0
          have HMC1 : Hid (((k : Int) + 1) * (pr : Int) = ck + pr) := mul_next k pr ck hc0
          clear hm0 hc0
          have hTs' : T.size = k * u := by rw [hTs, HUU.out]
          have HTS : Hid (T.size = k * u) := hTs'
          clear hTs
          rw [HUU.out] at HTE
          go_wp2_with fail
          refine (on_step' F w2.heap.size P w2.heap.size _ n pr p v zs t m ck pos (rep t k) wr HPR.out hzl HTX.out hF' hpar hbld hlr hbel.size (by omega) (by omega) (by omega) (by omega) (by omega) hfit hRr htr hRP h2P).mono ?_
          rintro e w5 ⟨p5, v5, l5, c5, hp5, hb5, k5, he⟩
          have HKC : Hid (ck ≤ 8388608) := hkc
          have hkc' : (ck : Int) ≤ 8388608 := by omega
          clear hkc
          have bel5 : Below w2.heap.size w2 w5 := hbel.trans (k5.below hbel.size (by
            rintro j (rfl | hj)
            · omega
            · exact Own.base hbld (Nat.le_refl _) j hj))
          have hk5 : Keeps (fun _ => False) w2 w5 := Keeps.of_below bel5
          have hR5 := hR.kept hk5 (fun h => h)
          have ht5 := hk5.cell ht2 (fun h => h)
          rcases he with ⟨hc, ⟨q, rfl⟩, rfl, rfl⟩ | ⟨hc, hcc, ⟨q, rfl⟩, rfl, rfl⟩ | ⟨hc, hcc, rfl, rfl, rfl⟩
          · have hn0 : 0 < n := by omega
            have hq0 := HQ1.out (by omega)
            obtain ⟨sm, hsm⟩ : ∃ sm : Nat, (m : Int) + n = sm := ⟨m + n, by omega⟩
            obtain ⟨sc, hsc⟩ : ∃ sc : Nat, (ck : Int) + pr = sc := ⟨ck + pr, by omega⟩
            have hmul : ((k : Int) + 1) * (n : Int) = sm := by rw [HMUL.out, hsm]
            have hmc1 : ((k : Int) + 1) * (pr : Int) = sc := by rw [HMC1.out, hsc]
            rw [hsm] at hp5 hc
            have hsmb : (sm : Int) ≤ 200000 := by omega
            have hscb : (sc : Int) ≤ 20000000 := by omega
            have B49 : decide ((sm : Int) ≤ 100000) = false := decide_eq_false (by omega)
            have Bk : decide ((k : Int) < 32768) = true := decide_eq_true (by omega)
            have Bn : decide ((0 : Int) < n) = true := decide_eq_true (by omega)
            have hkb : (k : Int) ≤ 32767 := by omega
            clear hsm hsc hkn hlt hlr hTs' hc hlt'
            have hn1 : ¬ (n : Int) = 0 := by omega
            have hn3 : ¬ n = 0 := by omega
            go_upto_region 35 with fail
            clear hq0
            obtain ⟨q2, hq2, hq3, hq5⟩ := HQ3.out
            have HQ5 : Hid (q2 ≤ 8388608) := hq5
            have hq8 : (q2 : Int) ≤ 9000000 := by omega
            have hq9 : q2 ≤ 9000000 := by omega
            clear hq5 hq9
            have B35 : decide ((q2 : Int) < k) = false := decide_eq_false (by omega)
            have B35' : decide (q2 < k) = false := decide_eq_false (by omega)
            have hq4 : ¬ (q2 : Int) < k := by omega
            clear hq3
            have hp0 : ¬ (pr : Int) = 0 := by omega
            have hp3 : ¬ pr = 0 := by omega
            have hp4 : 0 < pr := by omega
            have hp5' : (0 : Int) < pr := by omega
            go_wp2_with fail
            clear hq2
            refine (zzRanges P _ _ _ _ hp5).mono ?_
            rintro e w6 ⟨rfl, hw⟩
            obtain rfl := hw.symm
            go_wp2_with fail
            refine (zzCost P _ _ _ _ hp5).mono ?_
            rintro e w6 ⟨rfl, hw⟩
            obtain rfl := hw.symm
            go_wp2_with fail
            refine (ZX _ _ ht5 hR5).mono ?_
            rintro e w6 ⟨rfl, hb6⟩
            have k6 : Keeps (fun _ => False) w5 w6 := Keeps.of_below hb6
            have hp6 := hp5.kept k6 (fun h => h)
            have hb6' := hb5.kept k6 (fun h => h) (fun _ _ h => h)
            have bel6 : Below w2.heap.size w2 w6 := bel5.trans (k6.below bel5.size (fun _ h => h.elim))
            have ZT := zzText _ P _ _ _ _ _ _ w6 hp6 hb6'
            rw [← HT.out] at ZT
            go_wp2_with fail
            refine ZT.mono ?_
            rintro e w7 ⟨rfl, k7⟩
            have bel7 : Below w.heap.size w w7 := bel2.trans ((bel6.trans (k7.below bel6.size (fun j hj => (hb6'.base j hj).1))).mono bel2.size)
            obtain ⟨g, hg⟩ : ∃ g, g = k * u := ⟨_, rfl⟩
            have hgu : (k : Int) * (u : Int) = g := mul_cast k u g hg.symm
            have hTs' := HTS.out
            rw [← hg] at hTs'
            have HG : Hid (g = k * u) := hg
            have hgb : (g : Int) ≤ 1000000000 := by have h := HLR.out; rw [HUU.out, ← hg] at h; omega
            have B60 : ((g : Int) != g) = false := by simp
            clear hg
            go_wp2
            go_loopw [24] (fun a wr => ∃ j : Nat, a = .int .i64 j ∧ j ≤ k ∧ wr = w7)
              (fun a _ => k - (intOf a).toNat)
            case atStart => exact ⟨0, rfl, by omega, rfl⟩
            case round =>
              obtain ⟨j, rfl, hjk, hw⟩ := hrel
              obtain rfl := hw.symm
              by_cases hj : j < k
              · have hj' : (j : Int) < k := by omega
                obtain ⟨x0, hx0⟩ : ∃ x0, x0 = j * u := ⟨_, rfl⟩
                obtain ⟨x1, hx1⟩ : ∃ x1, x1 = (j + 1) * u := ⟨_, rfl⟩
                have hy0 : (j : Int) * (u : Int) = x0 := mul_cast j u x0 hx0.symm
                have hy1 : ((j : Int) + 1) * (u : Int) = x1 := by rw [mul_next j u x0 hx0.symm, hx1, Nat.succ_mul, ← hx0, Int.natCast_add]
                have hle : x0 ≤ x1 := by rw [hx0, hx1]; exact Nat.mul_le_mul_right u (by omega)
                have hxg : x1 ≤ g := by rw [hx1, HG.out]; exact Nat.mul_le_mul_right u hj
                have hE : T.extract x0 x1 = S := by rw [hx0, hx1]; exact HTE.out j hj
                clear hx0 hx1
                go_wp2
                go_roundw
                case rel => exact ⟨j + 1, by go_num, by omega, trivial⟩
                case measure => simp [intOf]; omega
              · have hj' : ¬ (j : Int) < k := by omega
                go_wp2
                go_ret
                exact ⟨rfl, bel7⟩
          · have HQ2b : Hid (Int.tdiv (8388608 : Int) pr = k) := HQ2.out (by omega)
            have HQ4b : Hid (0 < n → ∃ q : Nat, Int.tdiv (100000 : Int) n = q ∧ k + 1 ≤ q ∧ q ≤ 100000) := fun h => HQ4.out h (by omega)
            obtain ⟨sm, hsm⟩ : ∃ sm : Nat, (m : Int) + n = sm := ⟨m + n, by omega⟩
            obtain ⟨sc, hsc⟩ : ∃ sc : Nat, (ck : Int) + pr = sc := ⟨ck + pr, by omega⟩
            have hmul : ((k : Int) + 1) * (n : Int) = sm := by rw [HMUL.out, hsm]
            have hmc1 : ((k : Int) + 1) * (pr : Int) = sc := by rw [HMC1.out, hsc]
            rw [hsm] at hp5 hc
            rw [hsc] at hp5 hcc
            have hscb : (sc : Int) ≤ 20000000 := by omega
            have B49 : decide ((sm : Int) ≤ 100000) = true := decide_eq_true (by omega)
            have Bk : decide ((k : Int) < 32768) = true := decide_eq_true (by omega)
            have hkb : (k : Int) ≤ 32767 := by omega
            have hsmb : (sm : Int) ≤ 100000 := by omega
            clear hsm hsc hkn hlt hlr hTs' hc hcc hlt'
            have hp0 : ¬ (pr : Int) = 0 := by omega
            have hp3 : ¬ pr = 0 := by omega
            have hp4 : 0 < pr := by omega
            have hp5' : (0 : Int) < pr := by omega
            by_cases hn0 : 0 < n
            · have hn1 : ¬ (n : Int) = 0 := by omega
              have hn3 : ¬ n = 0 := by omega
              obtain ⟨q0, hq0, hq3, hq5⟩ := HQ4b.out hn0
              have B35 : decide ((k : Int) < q0) = true := decide_eq_true (by omega)
              have B35' : decide (k < q0) = true := decide_eq_true (by omega)
              have hq4 : (k : Int) < q0 := by omega
              have Bn : decide ((0 : Int) < n) = true := decide_eq_true (by omega)
              have hq0b : (q0 : Int) ≤ 100000 := by omega
              have HQ9 : Hid (k + 1 ≤ q0) := hq3
              clear hq3 hq5
              by_cases hq6 : q0 < 32768
              · have B33 : decide ((q0 : Int) < 32768) = true := decide_eq_true (by omega)
                clear hq6
                go_upto_region 35 with fail
                clear hq0
                have hq2 := HQ2b.out
                go_wp2_with fail
                clear hq2
                refine (zzRanges P _ _ _ _ hp5).mono ?_
                rintro e w6 ⟨rfl, hw⟩
                obtain rfl := hw.symm
                go_wp2_with fail
                refine (zzCost P _ _ _ _ hp5).mono ?_
                rintro e w6 ⟨rfl, hw⟩
                obtain rfl := hw.symm
                go_wp2_with fail
                refine (ZX _ _ ht5 hR5).mono ?_
                rintro e w6 ⟨rfl, hb6⟩
                have k6 : Keeps (fun _ => False) w5 w6 := Keeps.of_below hb6
                have hp6 := hp5.kept k6 (fun h => h)
                have hb6' := hb5.kept k6 (fun h => h) (fun _ _ h => h)
                have bel6 : Below w2.heap.size w2 w6 := bel5.trans (k6.below bel5.size (fun _ h => h.elim))
                have ZT := zzText _ P _ _ _ _ _ _ w6 hp6 hb6'
                rw [← HT.out] at ZT
                go_wp2_with fail
                refine ZT.mono ?_
                rintro e w7 ⟨rfl, k7⟩
                have bel7 : Below w.heap.size w w7 := bel2.trans ((bel6.trans (k7.below bel6.size (fun j hj => (hb6'.base j hj).1))).mono bel2.size)
                obtain ⟨g, hg⟩ : ∃ g, g = k * u := ⟨_, rfl⟩
                have hgu : (k : Int) * (u : Int) = g := mul_cast k u g hg.symm
                have hTs' := HTS.out
                rw [← hg] at hTs'
                have HG : Hid (g = k * u) := hg
                have hgb : (g : Int) ≤ 1000000000 := by have h := HLR.out; rw [HUU.out, ← hg] at h; omega
                have B60 : ((g : Int) != g) = false := by simp
                clear hg
                go_wp2
                go_loopw [24] (fun a wr => ∃ j : Nat, a = .int .i64 j ∧ j ≤ k ∧ wr = w7)
                  (fun a _ => k - (intOf a).toNat)
                case atStart => exact ⟨0, rfl, by omega, rfl⟩
                case round =>
                  obtain ⟨j, rfl, hjk, hw⟩ := hrel
                  obtain rfl := hw.symm
                  by_cases hj : j < k
                  · have hj' : (j : Int) < k := by omega
                    obtain ⟨x0, hx0⟩ : ∃ x0, x0 = j * u := ⟨_, rfl⟩
                    obtain ⟨x1, hx1⟩ : ∃ x1, x1 = (j + 1) * u := ⟨_, rfl⟩
                    have hy0 : (j : Int) * (u : Int) = x0 := mul_cast j u x0 hx0.symm
                    have hy1 : ((j : Int) + 1) * (u : Int) = x1 := by rw [mul_next j u x0 hx0.symm, hx1, Nat.succ_mul, ← hx0, Int.natCast_add]
                    have hle : x0 ≤ x1 := by rw [hx0, hx1]; exact Nat.mul_le_mul_right u (by omega)
                    have hxg : x1 ≤ g := by rw [hx1, HG.out]; exact Nat.mul_le_mul_right u hj
                    have hE : T.extract x0 x1 = S := by rw [hx0, hx1]; exact HTE.out j hj
                    clear hx0 hx1
                    go_wp2
                    go_roundw
                    case rel => exact ⟨j + 1, by go_num, by omega, trivial⟩
                    case measure => simp [intOf]; omega
                  · have hj' : ¬ (j : Int) < k := by omega
                    go_wp2
                    go_ret
                    exact ⟨rfl, bel7⟩
              · have B33 : decide ((q0 : Int) < 32768) = false := decide_eq_false (by omega)
                clear hq6
                go_upto_region 35 with fail
                clear hq0
                have hq2 := HQ2b.out
                go_wp2_with fail
                clear hq2
                refine (zzRanges P _ _ _ _ hp5).mono ?_
                rintro e w6 ⟨rfl, hw⟩
                obtain rfl := hw.symm
                go_wp2_with fail
                refine (zzCost P _ _ _ _ hp5).mono ?_
                rintro e w6 ⟨rfl, hw⟩
                obtain rfl := hw.symm
                go_wp2_with fail
                refine (ZX _ _ ht5 hR5).mono ?_
                rintro e w6 ⟨rfl, hb6⟩
                have k6 : Keeps (fun _ => False) w5 w6 := Keeps.of_below hb6
                have hp6 := hp5.kept k6 (fun h => h)
                have hb6' := hb5.kept k6 (fun h => h) (fun _ _ h => h)
                have bel6 : Below w2.heap.size w2 w6 := bel5.trans (k6.below bel5.size (fun _ h => h.elim))
                have ZT := zzText _ P _ _ _ _ _ _ w6 hp6 hb6'
                rw [← HT.out] at ZT
                go_wp2_with fail
                refine ZT.mono ?_
                rintro e w7 ⟨rfl, k7⟩
                have bel7 : Below w.heap.size w w7 := bel2.trans ((bel6.trans (k7.below bel6.size (fun j hj => (hb6'.base j hj).1))).mono bel2.size)
                obtain ⟨g, hg⟩ : ∃ g, g = k * u := ⟨_, rfl⟩
                have hgu : (k : Int) * (u : Int) = g := mul_cast k u g hg.symm
                have hTs' := HTS.out
                rw [← hg] at hTs'
                have HG : Hid (g = k * u) := hg
                have hgb : (g : Int) ≤ 1000000000 := by have h := HLR.out; rw [HUU.out, ← hg] at h; omega
                have B60 : ((g : Int) != g) = false := by simp
                clear hg
                go_wp2
                go_loopw [24] (fun a wr => ∃ j : Nat, a = .int .i64 j ∧ j ≤ k ∧ wr = w7)
                  (fun a _ => k - (intOf a).toNat)
                case atStart => exact ⟨0, rfl, by omega, rfl⟩
                case round =>
                  obtain ⟨j, rfl, hjk, hw⟩ := hrel
                  obtain rfl := hw.symm
                  by_cases hj : j < k
                  · have hj' : (j : Int) < k := by omega
                    obtain ⟨x0, hx0⟩ : ∃ x0, x0 = j * u := ⟨_, rfl⟩
                    obtain ⟨x1, hx1⟩ : ∃ x1, x1 = (j + 1) * u := ⟨_, rfl⟩
                    have hy0 : (j : Int) * (u : Int) = x0 := mul_cast j u x0 hx0.symm
                    have hy1 : ((j : Int) + 1) * (u : Int) = x1 := by rw [mul_next j u x0 hx0.symm, hx1, Nat.succ_mul, ← hx0, Int.natCast_add]
                    have hle : x0 ≤ x1 := by rw [hx0, hx1]; exact Nat.mul_le_mul_right u (by omega)
                    have hxg : x1 ≤ g := by rw [hx1, HG.out]; exact Nat.mul_le_mul_right u hj
                    have hE : T.extract x0 x1 = S := by rw [hx0, hx1]; exact HTE.out j hj
                    clear hx0 hx1
                    go_wp2
                    go_roundw
                    case rel => exact ⟨j + 1, by go_num, by omega, trivial⟩
                    case measure => simp [intOf]; omega
                  · have hj' : ¬ (j : Int) < k := by omega
                    go_wp2
                    go_ret
                    exact ⟨rfl, bel7⟩
            · have Bn : decide ((0 : Int) < n) = false := decide_eq_false (by omega)
              have hn2 : ¬ (0 : Int) < n := by omega
              go_upto_region 35 with fail
              have hq2 := HQ2b.out
              go_wp2_with fail
              clear hq2
              refine (zzRanges P _ _ _ _ hp5).mono ?_
              rintro e w6 ⟨rfl, hw⟩
              obtain rfl := hw.symm
              go_wp2_with fail
              refine (zzCost P _ _ _ _ hp5).mono ?_
              rintro e w6 ⟨rfl, hw⟩
              obtain rfl := hw.symm
              go_wp2_with fail
              refine (ZX _ _ ht5 hR5).mono ?_
              rintro e w6 ⟨rfl, hb6⟩
              have k6 : Keeps (fun _ => False) w5 w6 := Keeps.of_below hb6
              have hp6 := hp5.kept k6 (fun h => h)
              have hb6' := hb5.kept k6 (fun h => h) (fun _ _ h => h)
              have bel6 : Below w2.heap.size w2 w6 := bel5.trans (k6.below bel5.size (fun _ h => h.elim))
              have ZT := zzText _ P _ _ _ _ _ _ w6 hp6 hb6'
              rw [← HT.out] at ZT
              go_wp2_with fail
              refine ZT.mono ?_
              rintro e w7 ⟨rfl, k7⟩
              have bel7 : Below w.heap.size w w7 := bel2.trans ((bel6.trans (k7.below bel6.size (fun j hj => (hb6'.base j hj).1))).mono bel2.size)
              obtain ⟨g, hg⟩ : ∃ g, g = k * u := ⟨_, rfl⟩
              have hgu : (k : Int) * (u : Int) = g := mul_cast k u g hg.symm
              have hTs' := HTS.out
              rw [← hg] at hTs'
              have HG : Hid (g = k * u) := hg
              have hgb : (g : Int) ≤ 1000000000 := by have h := HLR.out; rw [HUU.out, ← hg] at h; omega
              have B60 : ((g : Int) != g) = false := by simp
              clear hg
              go_wp2
              go_loopw [24] (fun a wr => ∃ j : Nat, a = .int .i64 j ∧ j ≤ k ∧ wr = w7)
                (fun a _ => k - (intOf a).toNat)
              case atStart => exact ⟨0, rfl, by omega, rfl⟩
              case round =>
                obtain ⟨j, rfl, hjk, hw⟩ := hrel
                obtain rfl := hw.symm
                by_cases hj : j < k
                · have hj' : (j : Int) < k := by omega
                  obtain ⟨x0, hx0⟩ : ∃ x0, x0 = j * u := ⟨_, rfl⟩
                  obtain ⟨x1, hx1⟩ : ∃ x1, x1 = (j + 1) * u := ⟨_, rfl⟩
                  have hy0 : (j : Int) * (u : Int) = x0 := mul_cast j u x0 hx0.symm
                  have hy1 : ((j : Int) + 1) * (u : Int) = x1 := by rw [mul_next j u x0 hx0.symm, hx1, Nat.succ_mul, ← hx0, Int.natCast_add]
                  have hle : x0 ≤ x1 := by rw [hx0, hx1]; exact Nat.mul_le_mul_right u (by omega)
                  have hxg : x1 ≤ g := by rw [hx1, HG.out]; exact Nat.mul_le_mul_right u hj
                  have hE : T.extract x0 x1 = S := by rw [hx0, hx1]; exact HTE.out j hj
                  clear hx0 hx1
                  go_wp2
                  go_roundw
                  case rel => exact ⟨j + 1, by go_num, by omega, trivial⟩
                  case measure => simp [intOf]; omega
                · have hj' : ¬ (j : Int) < k := by omega
                  go_wp2
                  go_ret
                  exact ⟨rfl, bel7⟩
          · go_wp2
            go_roundw
            case rel =>
              refine ⟨k + 1, p5, v5, by go_num, rfl, ?_, ?_, ?_, ?_, bel5⟩
              · rw [HS1.out]; omega
              · rw [HS2.out]; omega
              · rw [HS1.out, HS2.out, Int.natCast_add, Int.natCast_add]; exact hp5
              · rw [HRL.out]; exact hb5
            case measure => simp [intOf]; omega
      · obtain rfl := hw.symm
        go_wp2
        go_ret
        exact ⟨rfl, Below.refl _ _⟩
    | some a2 =>
      obtain ⟨cs1, hcs1, mk1⟩ := make_ints n (by omega) w
      have ka : Keeps (fun _ => False) w (w.alloc (.cells cs1 21)) := (Keeps.refl _ w).alloc _
      obtain ⟨wb, cp1, J1, kb⟩ := copy_ints 3 w.heap.size n c1 (some a1) xs cs1 (w.alloc (.cells cs1 21)) (heap_alloc_new w _) hcs1 (h1.kept ka (fun _ _ _ h => h)) HN.out
      have belb : Below w.heap.size w wb := (ka.below (Nat.le_refl _) (fun _ h => h.elim)).trans (kb.below (by simp) (fun k hk => by omega))
      have h2b : Ints (some a2) ys wb := ⟨fun j x hx => by
          obtain ⟨A, o, ha, hc⟩ := h2.at_ j x hx
          exact ⟨A, o, ha, (belb.cell (World.block_lt_of_cell? _ _ hc)).trans hc⟩⟩
      obtain ⟨cs2, hcs2, mk2⟩ := make_ints n (by omega) wb
      have kc : Keeps (fun _ => False) wb (wb.alloc (.cells cs2 21)) := (Keeps.refl _ wb).alloc _
      obtain ⟨wd, cp2, J2, kd⟩ := copy_ints 3 wb.heap.size n c2 (some a2) ys cs2 (wb.alloc (.cells cs2 21)) (heap_alloc_new wb _) hcs2 (h2b.kept kc (fun _ _ _ h => h)) hl.symm
      have bel0 : Below w.heap.size w wd := (belb.trans (kc.below belb.size (fun _ h => h.elim))).trans (kd.below (by have := belb.size; simp; omega) (fun k hk => by have := belb.size; omega))
      have J1 := (J1.kept kc (fun _ _ _ h => h)).kept kd (fun A o e => by have := kb.size; simp at e this; omega)
      go_enter Tryf.func4, Tryf.ntmps4
      go_wp2_with fail
      refine (zzBytes7 true pos (some a1) (some a2) n n c1 c2 w).mono ?_
      rintro e w1 ⟨rfl | rfl, hw⟩
      · obtain rfl := hw.symm
        go_wp2_with fail
        refine (Z _ _ _ _ _ J1 J2).mono ?_
        rintro e w2 ⟨rfl, hR, hb2⟩
        have bel2 := bel0.trans (hb2.mono bel0.size)
        go_wp2_with fail
        refine (zzNewBuilder [] w2 (by simp)).mono ?_
        rintro e w3 ⟨rfl, p0, v0, hB, hb3⟩
        have hBl := Keeps.lt hB.heap
        go_wp2_with fail
        refine (zzNewParser (some ⟨w2.heap.size, 0, none⟩) w3).mono ?_
        rintro e w4 ⟨P, rfl, hP, hpar, hb4⟩
        have hB4 : Bld w2.heap.size w2.heap.size p0 v0 [] w4 := hB.kept (Keeps.of_below (S := fun _ => False) hb4) (fun h => h) (fun _ _ h => h)
        have bel4 : Below w2.heap.size w2 w4 := hb3.trans (hb4.mono hb3.size)
        have ht2 : w2.cell? ⟨2, 15, none⟩ = some (.int .u8 4) := (bel2.cell (p := ⟨2, 15, none⟩) (World.block_lt_of_cell? _ _ ht)).trans ht
        have h2P : 2 ≠ P := by
          have a1 := World.block_lt_of_cell? _ _ ht2
          have a2 := hb3.size
          simp only at a1
          omega
        have hRP := show _ ≠ P from Nat.ne_of_lt (Nat.lt_of_le_of_lt hb2.size (Nat.lt_of_lt_of_le hBl hP))
        go_wp2
        go_loopw [15, 16] (fun a r wr => ∃ (k : Nat) (p v : Value), a = .int .i64 k ∧ r = .bool false ∧ k * n ≤ 100000 ∧ k * pr ≤ 8388608 ∧ Par P (.pointer (some ⟨w2.heap.size, 0, none⟩)) ((k * n : Nat) : Int) ((k * pr : Nat) : Int) wr ∧ Bld w2.heap.size w2.heap.size p v (rep t k) wr ∧ Below w2.heap.size w2 wr)
          (fun a _ _ => 32768 - (intOf a).toNat)
        case atStart => exact ⟨0, p0, v0, rfl, rfl, by omega, by omega, by simpa using hpar, hB4, bel4⟩
        case round =>
          obtain ⟨k, p, v, rfl, rfl, hkn, hkc, hpar, hbld, hbel⟩ := hrel
          have hF' : F.answers wr.tape := by rw [hbel.tape, bel2.tape]; exact hF
          have hlt : k < 32768 := by
            have := Nat.mul_le_mul_left k hpr4
            omega
          have hlr : (rep t k).length ≤ 1000000000 := by
            rw [rep_len]
            have h1 := Nat.mul_le_mul_left k HU.out.2
            have h2 : k * (29 * n + 20) = 29 * (k * n) + 20 * k := by rw [Nat.mul_add, Nat.mul_left_comm, Nat.mul_comm k 20]
            omega
          have HLR : Hid (k * t.length ≤ 1000000000) := by rw [← rep_len]; exact hlr
          have hk0 : Keeps (fun _ => False) w2 wr := Keeps.of_below hbel
          have hRr := hR.kept hk0 (fun h => h)
          have htr := hk0.cell ht2 (fun h => h)
          have HQ1 : Hid (100000 < k * n + n → Int.tdiv (100000 : Int) n = k) := fun h => quo_eq 100000 n k hkn h
          have HQ2 : Hid (8388608 < k * pr + pr → Int.tdiv (8388608 : Int) pr = k) := fun h => quo_eq 8388608 pr k hkc h
          have HQ3 : Hid (∃ q : Nat, Int.tdiv (8388608 : Int) pr = q ∧ k ≤ q ∧ q ≤ 8388608) := quo_ge 8388608 pr k (by omega) hkc
          have HQ4 : Hid (0 < n → k * n + n ≤ 100000 → ∃ q : Nat, Int.tdiv (100000 : Int) n = q ∧ k + 1 ≤ q ∧ q ≤ 100000) := fun h h' => quo_ge 100000 n (k + 1) h (by rw [Nat.succ_mul]; exact h')
          have HS1 : Hid ((k + 1) * n = k * n + n) := Nat.succ_mul k n
          have HS2 : Hid ((k + 1) * pr = k * pr + pr) := Nat.succ_mul k pr
          obtain ⟨T, hT, hTs, hTe⟩ := rep_text t k
          have HT : Hid (T = ⟨(rep t k).toArray⟩) := hT
          have HTE : Hid (∀ j, j < k → T.extract (j * t.length) ((j + 1) * t.length) = S) := by rw [HSS.out]; exact hTe
          have HRL : Hid (rep t (k + 1) = rep t k ++ t) := rfl
          have hlt' : (k : Int) < 32768 := by omega
          clear hT hTe
          generalize hm0 : k * n = m at hkn hpar HQ1 HQ4 HS1
          generalize hc0 : k * pr = ck at hkc hpar HQ2 HS2
          have HMUL : Hid (((k : Int) + 1) * (n : Int) = m + n) := mul_next k n m hm0
          have hmc := mul_cast k pr ck hc0
          have HMC1 : Hid (((k : Int) + 1) * (pr : Int) = ck + pr) := mul_next k pr ck hc0
          clear hm0 hc0
          have hTs' : T.size = k * u := by rw [hTs, HUU.out]
          have HTS : Hid (T.size = k * u) := hTs'
          clear hTs
          rw [HUU.out] at HTE
          go_wp2_with fail
          refine (on_step' F w2.heap.size P w2.heap.size _ n pr p v zs t m ck pos (rep t k) wr HPR.out hzl HTX.out hF' hpar hbld hlr hbel.size (by omega) (by omega) (by omega) (by omega) (by omega) hfit hRr htr hRP h2P).mono ?_
          rintro e w5 ⟨p5, v5, l5, c5, hp5, hb5, k5, he⟩
          have HKC : Hid (ck ≤ 8388608) := hkc
          have hkc' : (ck : Int) ≤ 8388608 := by omega
          clear hkc
          have bel5 : Below w2.heap.size w2 w5 := hbel.trans (k5.below hbel.size (by
            rintro j (rfl | hj)
            · omega
            · exact Own.base hbld (Nat.le_refl _) j hj))
          have hk5 : Keeps (fun _ => False) w2 w5 := Keeps.of_below bel5
          have hR5 := hR.kept hk5 (fun h => h)
          have ht5 := hk5.cell ht2 (fun h => h)
          rcases he with ⟨hc, ⟨q, rfl⟩, rfl, rfl⟩ | ⟨hc, hcc, ⟨q, rfl⟩, rfl, rfl⟩ | ⟨hc, hcc, rfl, rfl, rfl⟩
          · have hn0 : 0 < n := by omega
            have hq0 := HQ1.out (by omega)
            obtain ⟨sm, hsm⟩ : ∃ sm : Nat, (m : Int) + n = sm := ⟨m + n, by omega⟩
            obtain ⟨sc, hsc⟩ : ∃ sc : Nat, (ck : Int) + pr = sc := ⟨ck + pr, by omega⟩
            have hmul : ((k : Int) + 1) * (n : Int) = sm := by rw [HMUL.out, hsm]
            have hmc1 : ((k : Int) + 1) * (pr : Int) = sc := by rw [HMC1.out, hsc]
            rw [hsm] at hp5 hc
            have hsmb : (sm : Int) ≤ 200000 := by omega
            have hscb : (sc : Int) ≤ 20000000 := by omega
            have B49 : decide ((sm : Int) ≤ 100000) = false := decide_eq_false (by omega)
            have Bk : decide ((k : Int) < 32768) = true := decide_eq_true (by omega)
            have Bn : decide ((0 : Int) < n) = true := decide_eq_true (by omega)
            have hkb : (k : Int) ≤ 32767 := by omega
            clear hsm hsc hkn hlt hlr hTs' hc hlt'
            have hn1 : ¬ (n : Int) = 0 := by omega
            have hn3 : ¬ n = 0 := by omega
            go_upto_region 35 with fail
            clear hq0
            obtain ⟨q2, hq2, hq3, hq5⟩ := HQ3.out
            have HQ5 : Hid (q2 ≤ 8388608) := hq5
            have hq8 : (q2 : Int) ≤ 9000000 := by omega
            have hq9 : q2 ≤ 9000000 := by omega
            clear hq5 hq9
            have B35 : decide ((q2 : Int) < k) = false := decide_eq_false (by omega)
            have B35' : decide (q2 < k) = false := decide_eq_false (by omega)
            have hq4 : ¬ (q2 : Int) < k := by omega
            clear hq3
            have hp0 : ¬ (pr : Int) = 0 := by omega
            have hp3 : ¬ pr = 0 := by omega
            have hp4 : 0 < pr := by omega
            have hp5' : (0 : Int) < pr := by omega
            go_wp2_with fail
            clear hq2
            refine (zzRanges P _ _ _ _ hp5).mono ?_
            rintro e w6 ⟨rfl, hw⟩
            obtain rfl := hw.symm
            go_wp2_with fail
            refine (zzCost P _ _ _ _ hp5).mono ?_
            rintro e w6 ⟨rfl, hw⟩
            obtain rfl := hw.symm
            go_wp2_with fail
            refine (ZX _ _ ht5 hR5).mono ?_
            rintro e w6 ⟨rfl, hb6⟩
            have k6 : Keeps (fun _ => False) w5 w6 := Keeps.of_below hb6
            have hp6 := hp5.kept k6 (fun h => h)
            have hb6' := hb5.kept k6 (fun h => h) (fun _ _ h => h)
            have bel6 : Below w2.heap.size w2 w6 := bel5.trans (k6.below bel5.size (fun _ h => h.elim))
            have ZT := zzText _ P _ _ _ _ _ _ w6 hp6 hb6'
            rw [← HT.out] at ZT
            go_wp2_with fail
            refine ZT.mono ?_
            rintro e w7 ⟨rfl, k7⟩
            have bel7 : Below w.heap.size w w7 := bel2.trans ((bel6.trans (k7.below bel6.size (fun j hj => (hb6'.base j hj).1))).mono bel2.size)
            obtain ⟨g, hg⟩ : ∃ g, g = k * u := ⟨_, rfl⟩
            have hgu : (k : Int) * (u : Int) = g := mul_cast k u g hg.symm
            have hTs' := HTS.out
            rw [← hg] at hTs'
            have HG : Hid (g = k * u) := hg
            have hgb : (g : Int) ≤ 1000000000 := by have h := HLR.out; rw [HUU.out, ← hg] at h; omega
            have B60 : ((g : Int) != g) = false := by simp
            clear hg
            go_wp2
            go_loopw [24] (fun a wr => ∃ j : Nat, a = .int .i64 j ∧ j ≤ k ∧ wr = w7)
              (fun a _ => k - (intOf a).toNat)
            case atStart => exact ⟨0, rfl, by omega, rfl⟩
            case round =>
              obtain ⟨j, rfl, hjk, hw⟩ := hrel
              obtain rfl := hw.symm
              by_cases hj : j < k
              · have hj' : (j : Int) < k := by omega
                obtain ⟨x0, hx0⟩ : ∃ x0, x0 = j * u := ⟨_, rfl⟩
                obtain ⟨x1, hx1⟩ : ∃ x1, x1 = (j + 1) * u := ⟨_, rfl⟩
                have hy0 : (j : Int) * (u : Int) = x0 := mul_cast j u x0 hx0.symm
                have hy1 : ((j : Int) + 1) * (u : Int) = x1 := by rw [mul_next j u x0 hx0.symm, hx1, Nat.succ_mul, ← hx0, Int.natCast_add]
                have hle : x0 ≤ x1 := by rw [hx0, hx1]; exact Nat.mul_le_mul_right u (by omega)
                have hxg : x1 ≤ g := by rw [hx1, HG.out]; exact Nat.mul_le_mul_right u hj
                have hE : T.extract x0 x1 = S := by rw [hx0, hx1]; exact HTE.out j hj
                clear hx0 hx1
                go_wp2
                go_roundw
                case rel => exact ⟨j + 1, by go_num, by omega, trivial⟩
                case measure => simp [intOf]; omega
              · have hj' : ¬ (j : Int) < k := by omega
                go_wp2
                go_ret
                exact ⟨rfl, bel7⟩
          · have HQ2b : Hid (Int.tdiv (8388608 : Int) pr = k) := HQ2.out (by omega)
            have HQ4b : Hid (0 < n → ∃ q : Nat, Int.tdiv (100000 : Int) n = q ∧ k + 1 ≤ q ∧ q ≤ 100000) := fun h => HQ4.out h (by omega)
            obtain ⟨sm, hsm⟩ : ∃ sm : Nat, (m : Int) + n = sm := ⟨m + n, by omega⟩
            obtain ⟨sc, hsc⟩ : ∃ sc : Nat, (ck : Int) + pr = sc := ⟨ck + pr, by omega⟩
            have hmul : ((k : Int) + 1) * (n : Int) = sm := by rw [HMUL.out, hsm]
            have hmc1 : ((k : Int) + 1) * (pr : Int) = sc := by rw [HMC1.out, hsc]
            rw [hsm] at hp5 hc
            rw [hsc] at hp5 hcc
            have hscb : (sc : Int) ≤ 20000000 := by omega
            have B49 : decide ((sm : Int) ≤ 100000) = true := decide_eq_true (by omega)
            have Bk : decide ((k : Int) < 32768) = true := decide_eq_true (by omega)
            have hkb : (k : Int) ≤ 32767 := by omega
            have hsmb : (sm : Int) ≤ 100000 := by omega
            clear hsm hsc hkn hlt hlr hTs' hc hcc hlt'
            have hp0 : ¬ (pr : Int) = 0 := by omega
            have hp3 : ¬ pr = 0 := by omega
            have hp4 : 0 < pr := by omega
            have hp5' : (0 : Int) < pr := by omega
            by_cases hn0 : 0 < n
            · have hn1 : ¬ (n : Int) = 0 := by omega
              have hn3 : ¬ n = 0 := by omega
              obtain ⟨q0, hq0, hq3, hq5⟩ := HQ4b.out hn0
              have B35 : decide ((k : Int) < q0) = true := decide_eq_true (by omega)
              have B35' : decide (k < q0) = true := decide_eq_true (by omega)
              have hq4 : (k : Int) < q0 := by omega
              have Bn : decide ((0 : Int) < n) = true := decide_eq_true (by omega)
              have hq0b : (q0 : Int) ≤ 100000 := by omega
              have HQ9 : Hid (k + 1 ≤ q0) := hq3
              clear hq3 hq5
              by_cases hq6 : q0 < 32768
              · have B33 : decide ((q0 : Int) < 32768) = true := decide_eq_true (by omega)
                clear hq6
                go_upto_region 35 with fail
                clear hq0
                have hq2 := HQ2b.out
                go_wp2_with fail
                clear hq2
                refine (zzRanges P _ _ _ _ hp5).mono ?_
                rintro e w6 ⟨rfl, hw⟩
                obtain rfl := hw.symm
                go_wp2_with fail
                refine (zzCost P _ _ _ _ hp5).mono ?_
                rintro e w6 ⟨rfl, hw⟩
                obtain rfl := hw.symm
                go_wp2_with fail
                refine (ZX _ _ ht5 hR5).mono ?_
                rintro e w6 ⟨rfl, hb6⟩
                have k6 : Keeps (fun _ => False) w5 w6 := Keeps.of_below hb6
                have hp6 := hp5.kept k6 (fun h => h)
                have hb6' := hb5.kept k6 (fun h => h) (fun _ _ h => h)
                have bel6 : Below w2.heap.size w2 w6 := bel5.trans (k6.below bel5.size (fun _ h => h.elim))
                have ZT := zzText _ P _ _ _ _ _ _ w6 hp6 hb6'
                rw [← HT.out] at ZT
                go_wp2_with fail
                refine ZT.mono ?_
                rintro e w7 ⟨rfl, k7⟩
                have bel7 : Below w.heap.size w w7 := bel2.trans ((bel6.trans (k7.below bel6.size (fun j hj => (hb6'.base j hj).1))).mono bel2.size)
                obtain ⟨g, hg⟩ : ∃ g, g = k * u := ⟨_, rfl⟩
                have hgu : (k : Int) * (u : Int) = g := mul_cast k u g hg.symm
                have hTs' := HTS.out
                rw [← hg] at hTs'
                have HG : Hid (g = k * u) := hg
                have hgb : (g : Int) ≤ 1000000000 := by have h := HLR.out; rw [HUU.out, ← hg] at h; omega
                have B60 : ((g : Int) != g) = false := by simp
                clear hg
                go_wp2
                go_loopw [24] (fun a wr => ∃ j : Nat, a = .int .i64 j ∧ j ≤ k ∧ wr = w7)
                  (fun a _ => k - (intOf a).toNat)
                case atStart => exact ⟨0, rfl, by omega, rfl⟩
                case round =>
                  obtain ⟨j, rfl, hjk, hw⟩ := hrel
                  obtain rfl := hw.symm
                  by_cases hj : j < k
                  · have hj' : (j : Int) < k := by omega
                    obtain ⟨x0, hx0⟩ : ∃ x0, x0 = j * u := ⟨_, rfl⟩
                    obtain ⟨x1, hx1⟩ : ∃ x1, x1 = (j + 1) * u := ⟨_, rfl⟩
                    have hy0 : (j : Int) * (u : Int) = x0 := mul_cast j u x0 hx0.symm
                    have hy1 : ((j : Int) + 1) * (u : Int) = x1 := by rw [mul_next j u x0 hx0.symm, hx1, Nat.succ_mul, ← hx0, Int.natCast_add]
                    have hle : x0 ≤ x1 := by rw [hx0, hx1]; exact Nat.mul_le_mul_right u (by omega)
                    have hxg : x1 ≤ g := by rw [hx1, HG.out]; exact Nat.mul_le_mul_right u hj
                    have hE : T.extract x0 x1 = S := by rw [hx0, hx1]; exact HTE.out j hj
                    clear hx0 hx1
                    go_wp2
                    go_roundw
                    case rel => exact ⟨j + 1, by go_num, by omega, trivial⟩
                    case measure => simp [intOf]; omega
                  · have hj' : ¬ (j : Int) < k := by omega
                    go_wp2
                    go_ret
                    exact ⟨rfl, bel7⟩
              · have B33 : decide ((q0 : Int) < 32768) = false := decide_eq_false (by omega)
                clear hq6
                go_upto_region 35 with fail
                clear hq0
                have hq2 := HQ2b.out
                go_wp2_with fail
                clear hq2
                refine (zzRanges P _ _ _ _ hp5).mono ?_
                rintro e w6 ⟨rfl, hw⟩
                obtain rfl := hw.symm
                go_wp2_with fail
                refine (zzCost P _ _ _ _ hp5).mono ?_
                rintro e w6 ⟨rfl, hw⟩
                obtain rfl := hw.symm
                go_wp2_with fail
                refine (ZX _ _ ht5 hR5).mono ?_
                rintro e w6 ⟨rfl, hb6⟩
                have k6 : Keeps (fun _ => False) w5 w6 := Keeps.of_below hb6
                have hp6 := hp5.kept k6 (fun h => h)
                have hb6' := hb5.kept k6 (fun h => h) (fun _ _ h => h)
                have bel6 : Below w2.heap.size w2 w6 := bel5.trans (k6.below bel5.size (fun _ h => h.elim))
                have ZT := zzText _ P _ _ _ _ _ _ w6 hp6 hb6'
                rw [← HT.out] at ZT
                go_wp2_with fail
                refine ZT.mono ?_
                rintro e w7 ⟨rfl, k7⟩
                have bel7 : Below w.heap.size w w7 := bel2.trans ((bel6.trans (k7.below bel6.size (fun j hj => (hb6'.base j hj).1))).mono bel2.size)
                obtain ⟨g, hg⟩ : ∃ g, g = k * u := ⟨_, rfl⟩
                have hgu : (k : Int) * (u : Int) = g := mul_cast k u g hg.symm
                have hTs' := HTS.out
                rw [← hg] at hTs'
                have HG : Hid (g = k * u) := hg
                have hgb : (g : Int) ≤ 1000000000 := by have h := HLR.out; rw [HUU.out, ← hg] at h; omega
                have B60 : ((g : Int) != g) = false := by simp
                clear hg
                go_wp2
                go_loopw [24] (fun a wr => ∃ j : Nat, a = .int .i64 j ∧ j ≤ k ∧ wr = w7)
                  (fun a _ => k - (intOf a).toNat)
                case atStart => exact ⟨0, rfl, by omega, rfl⟩
                case round =>
                  obtain ⟨j, rfl, hjk, hw⟩ := hrel
                  obtain rfl := hw.symm
                  by_cases hj : j < k
                  · have hj' : (j : Int) < k := by omega
                    obtain ⟨x0, hx0⟩ : ∃ x0, x0 = j * u := ⟨_, rfl⟩
                    obtain ⟨x1, hx1⟩ : ∃ x1, x1 = (j + 1) * u := ⟨_, rfl⟩
                    have hy0 : (j : Int) * (u : Int) = x0 := mul_cast j u x0 hx0.symm
                    have hy1 : ((j : Int) + 1) * (u : Int) = x1 := by rw [mul_next j u x0 hx0.symm, hx1, Nat.succ_mul, ← hx0, Int.natCast_add]
                    have hle : x0 ≤ x1 := by rw [hx0, hx1]; exact Nat.mul_le_mul_right u (by omega)
                    have hxg : x1 ≤ g := by rw [hx1, HG.out]; exact Nat.mul_le_mul_right u hj
                    have hE : T.extract x0 x1 = S := by rw [hx0, hx1]; exact HTE.out j hj
                    clear hx0 hx1
                    go_wp2
                    go_roundw
                    case rel => exact ⟨j + 1, by go_num, by omega, trivial⟩
                    case measure => simp [intOf]; omega
                  · have hj' : ¬ (j : Int) < k := by omega
                    go_wp2
                    go_ret
                    exact ⟨rfl, bel7⟩
            · have Bn : decide ((0 : Int) < n) = false := decide_eq_false (by omega)
              have hn2 : ¬ (0 : Int) < n := by omega
              go_upto_region 35 with fail
              have hq2 := HQ2b.out
              go_wp2_with fail
              clear hq2
              refine (zzRanges P _ _ _ _ hp5).mono ?_
              rintro e w6 ⟨rfl, hw⟩
              obtain rfl := hw.symm
              go_wp2_with fail
              refine (zzCost P _ _ _ _ hp5).mono ?_
              rintro e w6 ⟨rfl, hw⟩
              obtain rfl := hw.symm
              go_wp2_with fail
              refine (ZX _ _ ht5 hR5).mono ?_
              rintro e w6 ⟨rfl, hb6⟩
              have k6 : Keeps (fun _ => False) w5 w6 := Keeps.of_below hb6
              have hp6 := hp5.kept k6 (fun h => h)
              have hb6' := hb5.kept k6 (fun h => h) (fun _ _ h => h)
              have bel6 : Below w2.heap.size w2 w6 := bel5.trans (k6.below bel5.size (fun _ h => h.elim))
              have ZT := zzText _ P _ _ _ _ _ _ w6 hp6 hb6'
              rw [← HT.out] at ZT
              go_wp2_with fail
              refine ZT.mono ?_
              rintro e w7 ⟨rfl, k7⟩
              have bel7 : Below w.heap.size w w7 := bel2.trans ((bel6.trans (k7.below bel6.size (fun j hj => (hb6'.base j hj).1))).mono bel2.size)
              obtain ⟨g, hg⟩ : ∃ g, g = k * u := ⟨_, rfl⟩
              have hgu : (k : Int) * (u : Int) = g := mul_cast k u g hg.symm
              have hTs' := HTS.out
              rw [← hg] at hTs'
              have HG : Hid (g = k * u) := hg
              have hgb : (g : Int) ≤ 1000000000 := by have h := HLR.out; rw [HUU.out, ← hg] at h; omega
              have B60 : ((g : Int) != g) = false := by simp
              clear hg
              go_wp2
              go_loopw [24] (fun a wr => ∃ j : Nat, a = .int .i64 j ∧ j ≤ k ∧ wr = w7)
                (fun a _ => k - (intOf a).toNat)
              case atStart => exact ⟨0, rfl, by omega, rfl⟩
              case round =>
                obtain ⟨j, rfl, hjk, hw⟩ := hrel
                obtain rfl := hw.symm
                by_cases hj : j < k
                · have hj' : (j : Int) < k := by omega
                  obtain ⟨x0, hx0⟩ : ∃ x0, x0 = j * u := ⟨_, rfl⟩
                  obtain ⟨x1, hx1⟩ : ∃ x1, x1 = (j + 1) * u := ⟨_, rfl⟩
                  have hy0 : (j : Int) * (u : Int) = x0 := mul_cast j u x0 hx0.symm
                  have hy1 : ((j : Int) + 1) * (u : Int) = x1 := by rw [mul_next j u x0 hx0.symm, hx1, Nat.succ_mul, ← hx0, Int.natCast_add]
                  have hle : x0 ≤ x1 := by rw [hx0, hx1]; exact Nat.mul_le_mul_right u (by omega)
                  have hxg : x1 ≤ g := by rw [hx1, HG.out]; exact Nat.mul_le_mul_right u hj
                  have hE : T.extract x0 x1 = S := by rw [hx0, hx1]; exact HTE.out j hj
                  clear hx0 hx1
                  go_wp2
                  go_roundw
                  case rel => exact ⟨j + 1, by go_num, by omega, trivial⟩
                  case measure => simp [intOf]; omega
                · have hj' : ¬ (j : Int) < k := by omega
                  go_wp2
                  go_ret
                  exact ⟨rfl, bel7⟩
          · go_wp2
            go_roundw
            case rel =>
              refine ⟨k + 1, p5, v5, by go_num, rfl, ?_, ?_, ?_, ?_, bel5⟩
              · rw [HS1.out]; omega
              · rw [HS2.out]; omega
              · rw [HS1.out, HS2.out, Int.natCast_add, Int.natCast_add]; exact hp5
              · rw [HRL.out]; exact hb5
            case measure => simp [intOf]; omega
      · obtain rfl := hw.symm
        go_wp2
        go_ret
        exact ⟨rfl, Below.refl _ _⟩


end Go.Proofs.Qxb6613280aFmt
