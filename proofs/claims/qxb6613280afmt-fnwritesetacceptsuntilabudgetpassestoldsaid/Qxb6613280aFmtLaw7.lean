/-
  FnWriteSetAcceptsUntilABudgetPasses, walked.
-/
import Derived.Test.Qxb6613280aFmtSeven7
namespace Go.Proofs.Qxb6613280aFmt
open Go.ChangeShapes Go.WideShapes Go.ChangeAt Go.RowKit Go.Extern.Stop Go.Stop Go.Extern

set_option maxHeartbeats 4000000 in
set_option maxRecDepth 100000 in
theorem law7_out (tr : Bool) (pos : Int) (a1 a2 : Option Addr) (n1 n2 c1 c2 : Nat) (w : World) (h : 65536 < n1 ∨ (¬ 65536 < n1 ∧ 65536 < n2) ∨ (¬ 65536 < n1 ∧ ¬ 65536 < n2 ∧ n1 ≠ n2)) :
    Calls Tryf.prog 4 #[.bool tr, .int .i64 pos, .slice a1 n1 c1, .slice a2 n2 c2] w fun e w' => e = .returned (.bool true) ∧ Below w.heap.size w w' := by
  go_enter Tryf.func4, Tryf.ntmps4
  go_wp2_with fail
  refine (zzBytes7 tr pos a1 a2 n1 n2 c1 c2 w).mono ?_
  rintro e w1 ⟨rfl | rfl, rfl⟩
  · rcases h with h | ⟨h, h'⟩ | ⟨h, h', h''⟩
    · have t1 : (65536 : Int) < n1 := by omega
      go_wp2
      go_ret
      exact ⟨rfl, Below.refl _ _⟩
    · have t1 : ¬ (65536 : Int) < n1 := by omega
      have t2 : (65536 : Int) < n2 := by omega
      go_wp2
      go_ret
      exact ⟨rfl, Below.refl _ _⟩
    · have t1 : ¬ (65536 : Int) < n1 := by omega
      have t2 : ¬ (65536 : Int) < n2 := by omega
      have t3 : ((n1 : Int) != n2) = true := by simp; omega
      go_wp2
      go_ret
      exact ⟨rfl, Below.refl _ _⟩
  · go_wp2
    go_ret
    exact ⟨rfl, Below.refl _ _⟩

theorem quo_eq (X n k : Nat) (h1 : k * n ≤ X) (h2 : X < k * n + n) : Int.tdiv (X : Int) (n : Int) = (k : Int) := by
  rw [Int.tdiv_eq_ediv_of_nonneg (by omega)]
  have : X / n = k := Nat.div_eq_of_lt_le h1 (by rw [Nat.succ_mul]; exact h2)
  rw [← this]; rfl
theorem quo_ge (X n k : Nat) (hn : 0 < n) (h1 : k * n ≤ X) : ∃ q : Nat, Int.tdiv (X : Int) (n : Int) = (q : Int) ∧ k ≤ q ∧ q ≤ X := by
  refine ⟨X / n, ?_, (Nat.le_div_iff_mul_le hn).2 h1, Nat.div_le_self _ _⟩
  rw [Int.tdiv_eq_ediv_of_nonneg (by omega)]
  rfl

theorem fit_zip (xs ys : List Int) (h1 : ∀ x ∈ xs, -2147483648 ≤ x ∧ x ≤ 2147483647) (h2 : ∀ x ∈ ys, -2147483648 ≤ x ∧ x ≤ 2147483647) : Fit (xs.zip ys) := by
  rintro ⟨x, y⟩ hz
  have := List.of_mem_zip hz
  exact ⟨h1 x this.1, h2 y this.2⟩

/-- One call of writeSet by a parser that translates, the set's length and text under names. -/
theorem on_step (F : Interp) (B P b R n : Nat) (p v : Value) (zs : List (Int × Int)) (t : List UInt8) (r c pos : Int) (l : List UInt8) (w : World) (hn : zs.length = n) (htx : syn zs = t) (hF : F.answers w.tape) (h : Par P (.pointer (some ⟨b, 0, none⟩)) r c w) (hb : Bld B b p v l w)
    (hlen : l.length ≤ 1000000000) (hBw : B ≤ w.heap.size) (r0 : 0 ≤ r) (r1 : r ≤ 100000000) (c0 : 0 ≤ c) (c1 : c ≤ 100000000) (hm : n ≤ 1000000) (hfit : Fit zs) (hR : RunesAt R zs w) (ht : w.cell? ⟨2, 15, none⟩ = some (.int .u8 4)) (hRP : R ≠ P) (h2P : 2 ≠ P) :
    Calls Tryf.prog 8 #[.pointer (some ⟨P, 0, none⟩), .int .i64 pos, .slice (some ⟨R, 0, none⟩) n n] w fun e w' => ∃ (p' v' : Value) (l' : List UInt8) (c' : Int), Par P (.pointer (some ⟨b, 0, none⟩)) (r + n) c' w' ∧ Bld B b p' v' l' w' ∧ Keeps (Both P b v) w w' ∧
    ((100000 < r + n ∧ (∃ q, e = .returned (.iface 78 q)) ∧ c' = c ∧ l' = l) ∨
     (r + n ≤ 100000 ∧ 8388608 < c + (400 + n * 32) ∧ (∃ q, e = .returned (.iface 78 q)) ∧ c' = c + (400 + n * 32) ∧ l' = l) ∨
     (r + n ≤ 100000 ∧ c + (400 + n * 32) ≤ 8388608 ∧ e = .returned .nilIface ∧ c' = c + (400 + n * 32) ∧ l' = l ++ t)) := by
  subst hn; subst htx
  exact zzWriteSet_on F B P b R p v zs r c pos l w hF h hb hlen hBw r0 r1 c0 c1 hm hfit hR ht hRP h2P

set_option maxHeartbeats 8000000 in
set_option maxRecDepth 100000 in
theorem law7_off (F : Interp) (pos : Int) (a1 a2 : Option Addr) (c1 c2 : Nat) (xs ys : List Int) (w : World) (hF : F.answers w.tape)
    (h1 : Ints a1 xs w) (h2 : Ints a2 ys w) (hl : ys.length = xs.length) (hm : xs.length ≤ 65536) :
    Calls Tryf.prog 4 #[.bool false, .int .i64 pos, .slice a1 xs.length c1, .slice a2 xs.length c2] w fun e w' => e = .returned (.bool true) ∧ Below w.heap.size w w' := by
  obtain ⟨n, hN⟩ : ∃ n, n = xs.length := ⟨_, rfl⟩
  have Z := fun a1 a2 c1 c2 w h1 h2 => zzRunes a1 a2 c1 c2 xs ys w h1 h2 hl (by omega)
  rw [← hN] at hl hm Z ⊢
  have HN : Hid (n = xs.length) := hN
  clear hN
  have t1 : ¬ (65536 : Int) < n := by omega
  have t3 : ((n : Int) != n) = false := by simp
  cases a1 with
  | none =>
    cases a2 with
    | none =>
      have J1 := h1
      have h2b := h2
      have belb : Below w.heap.size w w := Below.refl _ _
      have J2 := h2b
      have bel0 := belb
      go_enter Tryf.func4, Tryf.ntmps4
      go_wp2_with fail
      refine (zzBytes7 false pos none none n n c1 c2 w).mono ?_
      rintro e w1 ⟨rfl | rfl, hw⟩
      · obtain rfl := hw.symm
        go_wp2_with fail
        refine (Z _ _ _ _ _ J1 J2).mono ?_
        rintro e w2 ⟨rfl, hR, hb2⟩
        have bel2 := bel0.trans (hb2.mono bel0.size)
        go_wp2_with fail
        refine (zzNewBuilder [] w2 (by simp)).mono ?_
        rintro e w3 ⟨rfl, p0, v0, hB, hb3⟩
        have bel3 := bel2.trans (hb3.mono bel2.size)
        go_wp2_with fail
        refine (zzNewParser none w3).mono ?_
        rintro e w4 ⟨P, rfl, hP, hpar, hb4⟩
        have bel4 := bel3.trans (hb4.mono bel3.size)
        go_wp2
        go_loopw [15, 16] (fun a r wr => ∃ k : Nat, a = .int .i64 k ∧ r = .bool false ∧ k ≤ 32768 ∧ k * n ≤ 100000 ∧ Par P (.pointer none) ((k * n : Nat) : Int) 0 wr ∧ Below w.heap.size w wr)
          (fun a _ _ => 32768 - (intOf a).toNat)
        case atStart => exact ⟨0, rfl, rfl, by omega, by omega, by simpa using hpar, bel4⟩
        case round =>
          obtain ⟨k, rfl, rfl, hk, hkn, hpar, hbel⟩ := hrel
          have hF' : F.answers wr.tape := by rw [hbel.tape]; exact hF
          obtain ⟨m, hM⟩ : ∃ m, m = k * n := ⟨_, rfl⟩
          rw [← hM] at hkn hpar
          have HM : Hid (m = k * n) := hM
          clear hM
          by_cases hlt : k < 32768
          · have hlt' : (k : Int) < 32768 := by omega
            go_wp2_with fail
            refine (zzWriteSet_off F P _ n m 0 pos wr hF' hpar (by omega) (by omega)).mono ?_
            rintro e w5 ⟨hp5, k5, he⟩
            have bel5 : Below w.heap.size w w5 := hbel.trans (k5.below hbel.size (by rintro k rfl; have := bel3.size; omega))
            rcases he with ⟨hc, rfl⟩ | ⟨hc, q, rfl⟩
            · go_wp2
              go_roundw
              case rel => exact ⟨k + 1, by go_num, rfl, by omega, by rw [Nat.succ_mul, ← HM.out]; omega, by rw [Nat.succ_mul, ← HM.out]; simpa using hp5, bel5⟩
              case measure => simp [intOf]; omega
            · have hn0 : 0 < n := by omega
              have hn1 : ¬ (n : Int) = 0 := by omega
              have hn2 : (0 : Int) < n := by omega
              have hn3 : ¬ n = 0 := by omega
              have hq0 : Int.tdiv (100000 : Int) n = k := quo_eq 100000 n k (by rw [← HM.out]; exact hkn) (by rw [← HM.out]; omega)
              have hmul : ((k : Int) + 1) * (n : Int) = m + n := by rw [HM.out]; push_cast; rw [Int.add_mul]; omega
              go_wp2_with fail
              refine (zzRanges P _ _ _ _ hp5).mono ?_
              rintro e w6 ⟨rfl, hw⟩
              obtain rfl := hw.symm
              go_wp2_with fail
              refine (zzCost P _ _ _ _ hp5).mono ?_
              rintro e w6 ⟨rfl, hw⟩
              obtain rfl := hw.symm
              go_wp2_with fail
              refine (zzOut P none _ _ _ hp5).mono ?_
              rintro e w6 ⟨rfl, hw⟩
              obtain rfl := hw.symm
              go_wp2
              go_ret
              exact ⟨rfl, bel5⟩
          · have hlt' : ¬ (k : Int) < 32768 := by omega
            have hkk : ((k : Int) != 32768) = false := by simp; omega
            have hmul : (k : Int) * (n : Int) = m := by rw [HM.out]; push_cast; rfl
            have hm3 : n ≤ 3 := by
              have : m = 32768 * n := by rw [HM.out]; congr 1; omega
              omega
            by_cases hn0 : n = 0
            · have hn2 : ¬ (0 : Int) < n := by omega
              have hn4 : ¬ 0 < n := by omega
              clear hn0
              go_wp2_with fail
              refine (zzRanges P _ _ _ _ hpar).mono ?_
              rintro e w6 ⟨rfl, hw⟩
              obtain rfl := hw.symm
              go_wp2_with fail
              refine (zzCost P _ _ _ _ hpar).mono ?_
              rintro e w6 ⟨rfl, hw⟩
              obtain rfl := hw.symm
              go_wp2_with fail
              refine (zzOut P none _ _ _ hpar).mono ?_
              rintro e w6 ⟨rfl, hw⟩
              obtain rfl := hw.symm
              go_wp2
              go_ret
              exact ⟨rfl, hbel⟩
            · have hn1 : ¬ (n : Int) = 0 := by omega
              have hn2 : (0 : Int) < n := by omega
              have hn4 : 0 < n := by omega
              obtain ⟨q0, hq0, hq1, hq2⟩ := quo_ge 100000 n k (by omega) (by rw [← HM.out]; exact hkn)
              have hq0' : Int.tdiv (100000 : Int) n = q0 := hq0
              have hq3 : ¬ (q0 : Int) < 32768 := by omega
              clear hq0
              go_wp2_with fail
              refine (zzRanges P _ _ _ _ hpar).mono ?_
              rintro e w6 ⟨rfl, hw⟩
              obtain rfl := hw.symm
              go_wp2_with fail
              refine (zzCost P _ _ _ _ hpar).mono ?_
              rintro e w6 ⟨rfl, hw⟩
              obtain rfl := hw.symm
              go_wp2_with fail
              refine (zzOut P none _ _ _ hpar).mono ?_
              rintro e w6 ⟨rfl, hw⟩
              obtain rfl := hw.symm
              go_wp2
              go_ret
              exact ⟨rfl, hbel⟩
      · obtain rfl := hw.symm
        go_wp2
        go_ret
        exact ⟨rfl, Below.refl _ _⟩
    | some a2 =>
      have J1 := h1
      have h2b := h2
      have belb : Below w.heap.size w w := Below.refl _ _
      obtain ⟨cs2, hcs2, mk2⟩ := make_ints n (by omega) w
      have kc : Keeps (fun _ => False) w (w.alloc (.cells cs2 21)) := (Keeps.refl _ w).alloc _
      obtain ⟨wd, cp2, J2, kd⟩ := copy_ints 3 w.heap.size n c2 (some a2) ys cs2 (w.alloc (.cells cs2 21)) (heap_alloc_new w _) hcs2 (h2b.kept kc (fun _ _ _ h => h)) hl.symm
      have bel0 : Below w.heap.size w wd := (belb.trans (kc.below belb.size (fun _ h => h.elim))).trans (kd.below (by simp) (fun k hk => by have := belb.size; omega))
      have J1 : Ints none xs wd := ⟨fun j x hx => by
          obtain ⟨A, o, ha, _⟩ := J1.at_ j x hx
          cases ha⟩
      go_enter Tryf.func4, Tryf.ntmps4
      go_wp2_with fail
      refine (zzBytes7 false pos none (some a2) n n c1 c2 w).mono ?_
      rintro e w1 ⟨rfl | rfl, hw⟩
      · obtain rfl := hw.symm
        go_wp2_with fail
        refine (Z _ _ _ _ _ J1 J2).mono ?_
        rintro e w2 ⟨rfl, hR, hb2⟩
        have bel2 := bel0.trans (hb2.mono bel0.size)
        go_wp2_with fail
        refine (zzNewBuilder [] w2 (by simp)).mono ?_
        rintro e w3 ⟨rfl, p0, v0, hB, hb3⟩
        have bel3 := bel2.trans (hb3.mono bel2.size)
        go_wp2_with fail
        refine (zzNewParser none w3).mono ?_
        rintro e w4 ⟨P, rfl, hP, hpar, hb4⟩
        have bel4 := bel3.trans (hb4.mono bel3.size)
        go_wp2
        go_loopw [15, 16] (fun a r wr => ∃ k : Nat, a = .int .i64 k ∧ r = .bool false ∧ k ≤ 32768 ∧ k * n ≤ 100000 ∧ Par P (.pointer none) ((k * n : Nat) : Int) 0 wr ∧ Below w.heap.size w wr)
          (fun a _ _ => 32768 - (intOf a).toNat)
        case atStart => exact ⟨0, rfl, rfl, by omega, by omega, by simpa using hpar, bel4⟩
        case round =>
          obtain ⟨k, rfl, rfl, hk, hkn, hpar, hbel⟩ := hrel
          have hF' : F.answers wr.tape := by rw [hbel.tape]; exact hF
          obtain ⟨m, hM⟩ : ∃ m, m = k * n := ⟨_, rfl⟩
          rw [← hM] at hkn hpar
          have HM : Hid (m = k * n) := hM
          clear hM
          by_cases hlt : k < 32768
          · have hlt' : (k : Int) < 32768 := by omega
            go_wp2_with fail
            refine (zzWriteSet_off F P _ n m 0 pos wr hF' hpar (by omega) (by omega)).mono ?_
            rintro e w5 ⟨hp5, k5, he⟩
            have bel5 : Below w.heap.size w w5 := hbel.trans (k5.below hbel.size (by rintro k rfl; have := bel3.size; omega))
            rcases he with ⟨hc, rfl⟩ | ⟨hc, q, rfl⟩
            · go_wp2
              go_roundw
              case rel => exact ⟨k + 1, by go_num, rfl, by omega, by rw [Nat.succ_mul, ← HM.out]; omega, by rw [Nat.succ_mul, ← HM.out]; simpa using hp5, bel5⟩
              case measure => simp [intOf]; omega
            · have hn0 : 0 < n := by omega
              have hn1 : ¬ (n : Int) = 0 := by omega
              have hn2 : (0 : Int) < n := by omega
              have hn3 : ¬ n = 0 := by omega
              have hq0 : Int.tdiv (100000 : Int) n = k := quo_eq 100000 n k (by rw [← HM.out]; exact hkn) (by rw [← HM.out]; omega)
              have hmul : ((k : Int) + 1) * (n : Int) = m + n := by rw [HM.out]; push_cast; rw [Int.add_mul]; omega
              go_wp2_with fail
              refine (zzRanges P _ _ _ _ hp5).mono ?_
              rintro e w6 ⟨rfl, hw⟩
              obtain rfl := hw.symm
              go_wp2_with fail
              refine (zzCost P _ _ _ _ hp5).mono ?_
              rintro e w6 ⟨rfl, hw⟩
              obtain rfl := hw.symm
              go_wp2_with fail
              refine (zzOut P none _ _ _ hp5).mono ?_
              rintro e w6 ⟨rfl, hw⟩
              obtain rfl := hw.symm
              go_wp2
              go_ret
              exact ⟨rfl, bel5⟩
          · have hlt' : ¬ (k : Int) < 32768 := by omega
            have hkk : ((k : Int) != 32768) = false := by simp; omega
            have hmul : (k : Int) * (n : Int) = m := by rw [HM.out]; push_cast; rfl
            have hm3 : n ≤ 3 := by
              have : m = 32768 * n := by rw [HM.out]; congr 1; omega
              omega
            by_cases hn0 : n = 0
            · have hn2 : ¬ (0 : Int) < n := by omega
              have hn4 : ¬ 0 < n := by omega
              clear hn0
              go_wp2_with fail
              refine (zzRanges P _ _ _ _ hpar).mono ?_
              rintro e w6 ⟨rfl, hw⟩
              obtain rfl := hw.symm
              go_wp2_with fail
              refine (zzCost P _ _ _ _ hpar).mono ?_
              rintro e w6 ⟨rfl, hw⟩
              obtain rfl := hw.symm
              go_wp2_with fail
              refine (zzOut P none _ _ _ hpar).mono ?_
              rintro e w6 ⟨rfl, hw⟩
              obtain rfl := hw.symm
              go_wp2
              go_ret
              exact ⟨rfl, hbel⟩
            · have hn1 : ¬ (n : Int) = 0 := by omega
              have hn2 : (0 : Int) < n := by omega
              have hn4 : 0 < n := by omega
              obtain ⟨q0, hq0, hq1, hq2⟩ := quo_ge 100000 n k (by omega) (by rw [← HM.out]; exact hkn)
              have hq0' : Int.tdiv (100000 : Int) n = q0 := hq0
              have hq3 : ¬ (q0 : Int) < 32768 := by omega
              clear hq0
              go_wp2_with fail
              refine (zzRanges P _ _ _ _ hpar).mono ?_
              rintro e w6 ⟨rfl, hw⟩
              obtain rfl := hw.symm
              go_wp2_with fail
              refine (zzCost P _ _ _ _ hpar).mono ?_
              rintro e w6 ⟨rfl, hw⟩
              obtain rfl := hw.symm
              go_wp2_with fail
              refine (zzOut P none _ _ _ hpar).mono ?_
              rintro e w6 ⟨rfl, hw⟩
              obtain rfl := hw.symm
              go_wp2
              go_ret
              exact ⟨rfl, hbel⟩
      · obtain rfl := hw.symm
        go_wp2
        go_ret
        exact ⟨rfl, Below.refl _ _⟩
  | some a1 =>
    cases a2 with
    | none =>
      obtain ⟨cs1, hcs1, mk1⟩ := make_ints n (by omega) w
      have ka : Keeps (fun _ => False) w (w.alloc (.cells cs1 21)) := (Keeps.refl _ w).alloc _
      obtain ⟨wb, cp1, J1, kb⟩ := copy_ints 3 w.heap.size n c1 (some a1) xs cs1 (w.alloc (.cells cs1 21)) (heap_alloc_new w _) hcs1 (h1.kept ka (fun _ _ _ h => h)) HN.out
      have belb : Below w.heap.size w wb := (ka.below (Nat.le_refl _) (fun _ h => h.elim)).trans (kb.below (by simp) (fun k hk => by omega))
      have h2b : Ints none ys wb := ⟨fun j x hx => by
          obtain ⟨A, o, ha, hc⟩ := h2.at_ j x hx
          exact ⟨A, o, ha, (belb.cell (World.block_lt_of_cell? _ _ hc)).trans hc⟩⟩
      have J2 := h2b
      have bel0 := belb
      go_enter Tryf.func4, Tryf.ntmps4
      go_wp2_with fail
      refine (zzBytes7 false pos (some a1) none n n c1 c2 w).mono ?_
      rintro e w1 ⟨rfl | rfl, hw⟩
      · obtain rfl := hw.symm
        go_wp2_with fail
        refine (Z _ _ _ _ _ J1 J2).mono ?_
        rintro e w2 ⟨rfl, hR, hb2⟩
        have bel2 := bel0.trans (hb2.mono bel0.size)
        go_wp2_with fail
        refine (zzNewBuilder [] w2 (by simp)).mono ?_
        rintro e w3 ⟨rfl, p0, v0, hB, hb3⟩
        have bel3 := bel2.trans (hb3.mono bel2.size)
        go_wp2_with fail
        refine (zzNewParser none w3).mono ?_
        rintro e w4 ⟨P, rfl, hP, hpar, hb4⟩
        have bel4 := bel3.trans (hb4.mono bel3.size)
        go_wp2
        go_loopw [15, 16] (fun a r wr => ∃ k : Nat, a = .int .i64 k ∧ r = .bool false ∧ k ≤ 32768 ∧ k * n ≤ 100000 ∧ Par P (.pointer none) ((k * n : Nat) : Int) 0 wr ∧ Below w.heap.size w wr)
          (fun a _ _ => 32768 - (intOf a).toNat)
        case atStart => exact ⟨0, rfl, rfl, by omega, by omega, by simpa using hpar, bel4⟩
        case round =>
          obtain ⟨k, rfl, rfl, hk, hkn, hpar, hbel⟩ := hrel
          have hF' : F.answers wr.tape := by rw [hbel.tape]; exact hF
          obtain ⟨m, hM⟩ : ∃ m, m = k * n := ⟨_, rfl⟩
          rw [← hM] at hkn hpar
          have HM : Hid (m = k * n) := hM
          clear hM
          by_cases hlt : k < 32768
          · have hlt' : (k : Int) < 32768 := by omega
            go_wp2_with fail
            refine (zzWriteSet_off F P _ n m 0 pos wr hF' hpar (by omega) (by omega)).mono ?_
            rintro e w5 ⟨hp5, k5, he⟩
            have bel5 : Below w.heap.size w w5 := hbel.trans (k5.below hbel.size (by rintro k rfl; have := bel3.size; omega))
            rcases he with ⟨hc, rfl⟩ | ⟨hc, q, rfl⟩
            · go_wp2
              go_roundw
              case rel => exact ⟨k + 1, by go_num, rfl, by omega, by rw [Nat.succ_mul, ← HM.out]; omega, by rw [Nat.succ_mul, ← HM.out]; simpa using hp5, bel5⟩
              case measure => simp [intOf]; omega
            · have hn0 : 0 < n := by omega
              have hn1 : ¬ (n : Int) = 0 := by omega
              have hn2 : (0 : Int) < n := by omega
              have hn3 : ¬ n = 0 := by omega
              have hq0 : Int.tdiv (100000 : Int) n = k := quo_eq 100000 n k (by rw [← HM.out]; exact hkn) (by rw [← HM.out]; omega)
              have hmul : ((k : Int) + 1) * (n : Int) = m + n := by rw [HM.out]; push_cast; rw [Int.add_mul]; omega
              go_wp2_with fail
              refine (zzRanges P _ _ _ _ hp5).mono ?_
              rintro e w6 ⟨rfl, hw⟩
              obtain rfl := hw.symm
              go_wp2_with fail
              refine (zzCost P _ _ _ _ hp5).mono ?_
              rintro e w6 ⟨rfl, hw⟩
              obtain rfl := hw.symm
              go_wp2_with fail
              refine (zzOut P none _ _ _ hp5).mono ?_
              rintro e w6 ⟨rfl, hw⟩
              obtain rfl := hw.symm
              go_wp2
              go_ret
              exact ⟨rfl, bel5⟩
          · have hlt' : ¬ (k : Int) < 32768 := by omega
            have hkk : ((k : Int) != 32768) = false := by simp; omega
            have hmul : (k : Int) * (n : Int) = m := by rw [HM.out]; push_cast; rfl
            have hm3 : n ≤ 3 := by
              have : m = 32768 * n := by rw [HM.out]; congr 1; omega
              omega
            by_cases hn0 : n = 0
            · have hn2 : ¬ (0 : Int) < n := by omega
              have hn4 : ¬ 0 < n := by omega
              clear hn0
              go_wp2_with fail
              refine (zzRanges P _ _ _ _ hpar).mono ?_
              rintro e w6 ⟨rfl, hw⟩
              obtain rfl := hw.symm
              go_wp2_with fail
              refine (zzCost P _ _ _ _ hpar).mono ?_
              rintro e w6 ⟨rfl, hw⟩
              obtain rfl := hw.symm
              go_wp2_with fail
              refine (zzOut P none _ _ _ hpar).mono ?_
              rintro e w6 ⟨rfl, hw⟩
              obtain rfl := hw.symm
              go_wp2
              go_ret
              exact ⟨rfl, hbel⟩
            · have hn1 : ¬ (n : Int) = 0 := by omega
              have hn2 : (0 : Int) < n := by omega
              have hn4 : 0 < n := by omega
              obtain ⟨q0, hq0, hq1, hq2⟩ := quo_ge 100000 n k (by omega) (by rw [← HM.out]; exact hkn)
              have hq0' : Int.tdiv (100000 : Int) n = q0 := hq0
              have hq3 : ¬ (q0 : Int) < 32768 := by omega
              clear hq0
              go_wp2_with fail
              refine (zzRanges P _ _ _ _ hpar).mono ?_
              rintro e w6 ⟨rfl, hw⟩
              obtain rfl := hw.symm
              go_wp2_with fail
              refine (zzCost P _ _ _ _ hpar).mono ?_
              rintro e w6 ⟨rfl, hw⟩
              obtain rfl := hw.symm
              go_wp2_with fail
              refine (zzOut P none _ _ _ hpar).mono ?_
              rintro e w6 ⟨rfl, hw⟩
              obtain rfl := hw.symm
              go_wp2
              go_ret
              exact ⟨rfl, hbel⟩
      · obtain rfl := hw.symm
        go_wp2
        go_ret
        exact ⟨rfl, Below.refl _ _⟩
    | some a2 =>
      obtain ⟨cs1, hcs1, mk1⟩ := make_ints n (by omega) w
      have ka : Keeps (fun _ => False) w (w.alloc (.cells cs1 21)) := (Keeps.refl _ w).alloc _
      obtain ⟨wb, cp1, J1, kb⟩ := copy_ints 3 w.heap.size n c1 (some a1) xs cs1 (w.alloc (.cells cs1 21)) (heap_alloc_new w _) hcs1 (h1.kept ka (fun _ _ _ h => h)) HN.out
      have belb : Below w.heap.size w wb := (ka.below (Nat.le_refl _) (fun _ h => h.elim)).trans (kb.below (by simp) (fun k hk => by omega))
      have h2b : Ints (some a2) ys wb := ⟨fun j x hx => by
          obtain ⟨A, o, ha, hc⟩ := h2.at_ j x hx
          exact ⟨A, o, ha, (belb.cell (World.block_lt_of_cell? _ _ hc)).trans hc⟩⟩
      obtain ⟨cs2, hcs2, mk2⟩ := make_ints n (by omega) wb
      have kc : Keeps (fun _ => False) wb (wb.alloc (.cells cs2 21)) := (Keeps.refl _ wb).alloc _
      obtain ⟨wd, cp2, J2, kd⟩ := copy_ints 3 wb.heap.size n c2 (some a2) ys cs2 (wb.alloc (.cells cs2 21)) (heap_alloc_new wb _) hcs2 (h2b.kept kc (fun _ _ _ h => h)) hl.symm
      have bel0 : Below w.heap.size w wd := (belb.trans (kc.below belb.size (fun _ h => h.elim))).trans (kd.below (by have := belb.size; simp; omega) (fun k hk => by have := belb.size; omega))
      have J1 := (J1.kept kc (fun _ _ _ h => h)).kept kd (fun A o e => by have := kb.size; simp at e this; omega)
      go_enter Tryf.func4, Tryf.ntmps4
      go_wp2_with fail
      refine (zzBytes7 false pos (some a1) (some a2) n n c1 c2 w).mono ?_
      rintro e w1 ⟨rfl | rfl, hw⟩
      · obtain rfl := hw.symm
        go_wp2_with fail
        refine (Z _ _ _ _ _ J1 J2).mono ?_
        rintro e w2 ⟨rfl, hR, hb2⟩
        have bel2 := bel0.trans (hb2.mono bel0.size)
        go_wp2_with fail
        refine (zzNewBuilder [] w2 (by simp)).mono ?_
        rintro e w3 ⟨rfl, p0, v0, hB, hb3⟩
        have bel3 := bel2.trans (hb3.mono bel2.size)
        go_wp2_with fail
        refine (zzNewParser none w3).mono ?_
        rintro e w4 ⟨P, rfl, hP, hpar, hb4⟩
        have bel4 := bel3.trans (hb4.mono bel3.size)
        go_wp2
        go_loopw [15, 16] (fun a r wr => ∃ k : Nat, a = .int .i64 k ∧ r = .bool false ∧ k ≤ 32768 ∧ k * n ≤ 100000 ∧ Par P (.pointer none) ((k * n : Nat) : Int) 0 wr ∧ Below w.heap.size w wr)
          (fun a _ _ => 32768 - (intOf a).toNat)
        case atStart => exact ⟨0, rfl, rfl, by omega, by omega, by simpa using hpar, bel4⟩
        case round =>
          obtain ⟨k, rfl, rfl, hk, hkn, hpar, hbel⟩ := hrel
          have hF' : F.answers wr.tape := by rw [hbel.tape]; exact hF
          obtain ⟨m, hM⟩ : ∃ m, m = k * n := ⟨_, rfl⟩
          rw [← hM] at hkn hpar
          have HM : Hid (m = k * n) := hM
          clear hM
          by_cases hlt : k < 32768
          · have hlt' : (k : Int) < 32768 := by omega
            go_wp2_with fail
            refine (zzWriteSet_off F P _ n m 0 pos wr hF' hpar (by omega) (by omega)).mono ?_
            rintro e w5 ⟨hp5, k5, he⟩
            have bel5 : Below w.heap.size w w5 := hbel.trans (k5.below hbel.size (by rintro k rfl; have := bel3.size; omega))
            rcases he with ⟨hc, rfl⟩ | ⟨hc, q, rfl⟩
            · go_wp2
              go_roundw
              case rel => exact ⟨k + 1, by go_num, rfl, by omega, by rw [Nat.succ_mul, ← HM.out]; omega, by rw [Nat.succ_mul, ← HM.out]; simpa using hp5, bel5⟩
              case measure => simp [intOf]; omega
            · have hn0 : 0 < n := by omega
              have hn1 : ¬ (n : Int) = 0 := by omega
              have hn2 : (0 : Int) < n := by omega
              have hn3 : ¬ n = 0 := by omega
              have hq0 : Int.tdiv (100000 : Int) n = k := quo_eq 100000 n k (by rw [← HM.out]; exact hkn) (by rw [← HM.out]; omega)
              have hmul : ((k : Int) + 1) * (n : Int) = m + n := by rw [HM.out]; push_cast; rw [Int.add_mul]; omega
              go_wp2_with fail
              refine (zzRanges P _ _ _ _ hp5).mono ?_
              rintro e w6 ⟨rfl, hw⟩
              obtain rfl := hw.symm
              go_wp2_with fail
              refine (zzCost P _ _ _ _ hp5).mono ?_
              rintro e w6 ⟨rfl, hw⟩
              obtain rfl := hw.symm
              go_wp2_with fail
              refine (zzOut P none _ _ _ hp5).mono ?_
              rintro e w6 ⟨rfl, hw⟩
              obtain rfl := hw.symm
              go_wp2
              go_ret
              exact ⟨rfl, bel5⟩
          · have hlt' : ¬ (k : Int) < 32768 := by omega
            have hkk : ((k : Int) != 32768) = false := by simp; omega
            have hmul : (k : Int) * (n : Int) = m := by rw [HM.out]; push_cast; rfl
            have hm3 : n ≤ 3 := by
              have : m = 32768 * n := by rw [HM.out]; congr 1; omega
              omega
            by_cases hn0 : n = 0
            · have hn2 : ¬ (0 : Int) < n := by omega
              have hn4 : ¬ 0 < n := by omega
              clear hn0
              go_wp2_with fail
              refine (zzRanges P _ _ _ _ hpar).mono ?_
              rintro e w6 ⟨rfl, hw⟩
              obtain rfl := hw.symm
              go_wp2_with fail
              refine (zzCost P _ _ _ _ hpar).mono ?_
              rintro e w6 ⟨rfl, hw⟩
              obtain rfl := hw.symm
              go_wp2_with fail
              refine (zzOut P none _ _ _ hpar).mono ?_
              rintro e w6 ⟨rfl, hw⟩
              obtain rfl := hw.symm
              go_wp2
              go_ret
              exact ⟨rfl, hbel⟩
            · have hn1 : ¬ (n : Int) = 0 := by omega
              have hn2 : (0 : Int) < n := by omega
              have hn4 : 0 < n := by omega
              obtain ⟨q0, hq0, hq1, hq2⟩ := quo_ge 100000 n k (by omega) (by rw [← HM.out]; exact hkn)
              have hq0' : Int.tdiv (100000 : Int) n = q0 := hq0
              have hq3 : ¬ (q0 : Int) < 32768 := by omega
              clear hq0
              go_wp2_with fail
              refine (zzRanges P _ _ _ _ hpar).mono ?_
              rintro e w6 ⟨rfl, hw⟩
              obtain rfl := hw.symm
              go_wp2_with fail
              refine (zzCost P _ _ _ _ hpar).mono ?_
              rintro e w6 ⟨rfl, hw⟩
              obtain rfl := hw.symm
              go_wp2_with fail
              refine (zzOut P none _ _ _ hpar).mono ?_
              rintro e w6 ⟨rfl, hw⟩
              obtain rfl := hw.symm
              go_wp2
              go_ret
              exact ⟨rfl, hbel⟩
      · obtain rfl := hw.symm
        go_wp2
        go_ret
        exact ⟨rfl, Below.refl _ _⟩

end Go.Proofs.Qxb6613280aFmt
