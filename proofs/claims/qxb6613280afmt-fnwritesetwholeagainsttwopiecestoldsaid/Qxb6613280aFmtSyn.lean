/-
  A set's Go text and its wrapper, by contract: the text 'syn'.
-/
import Derived.Test.Qxb6613280aFmtBuild
import Derived.Test.Qxb6613280aFmtRune
namespace Go.Proofs.Qxb6613280aFmt
open Go.ChangeShapes Go.WideShapes Go.ChangeAt Go.RowKit

/-- The ranges zs lie in block R. -/
def RunesAt (R : Nat) (zs : List (Int × Int)) (w : World) : Prop :=
  ∀ j z, zs[j]? = some z → w.cell? ⟨R, j * 2, none⟩ = some (.int .i32 z.1) ∧ w.cell? ⟨R, j * 2 + 1, none⟩ = some (.int .i32 z.2)
/-- They are int32s. -/
def Fit (zs : List (Int × Int)) : Prop := ∀ z, z ∈ zs → (-2147483648 ≤ z.1 ∧ z.1 ≤ 2147483647) ∧ (-2147483648 ≤ z.2 ∧ z.2 ≤ 2147483647)

set_option maxHeartbeats 2000000 in
set_option maxRecDepth 100000 in
theorem syntax_nil (R : Nat) (w : World) :
    Calls Tryf.prog 19 #[.slice (some ⟨R, 0, none⟩) 0 0] w fun e w' => e = .returned (.string ⟨(syn []).toArray⟩) ∧ Below w.heap.size w w' := by
  go_enter Tryf.func19, Tryf.ntmps19
  go_wp2
  go_ret
  exact ⟨rfl, Below.refl _ _⟩

set_option maxHeartbeats 2000000 in
set_option maxRecDepth 100000 in
theorem syntax_one (R : Nat) (c : Int) (w : World) (ht : w.cell? ⟨2, 15, none⟩ = some (.int .u8 4)) (h0 : -2147483648 ≤ c) (h1 : c ≤ 2147483647)
    (c0 : w.cell? ⟨R, 0, none⟩ = some (.int .i32 c)) (c1 : w.cell? ⟨R, 1, none⟩ = some (.int .i32 c)) :
    Calls Tryf.prog 19 #[.slice (some ⟨R, 0, none⟩) 1 1] w fun e w' => e = .returned (.string ⟨(syn [(c, c)]).toArray⟩) ∧ Below w.heap.size w w' := by
  have d0 : w.drew.cell? ⟨R, 0, none⟩ = some (.int .i32 c) := c0
  have d1 : w.drew.cell? ⟨R, 1, none⟩ = some (.int .i32 c) := c1
  go_enter Tryf.func19, Tryf.ntmps19
  go_wp2
  go_region
  go_wp2_with fail
  refine (rune_any c w.drew ht h0 h1).mono ?_
  rintro e w' ⟨rfl, hb⟩
  go_wp2
  go_ret
  exact ⟨by simp [syn], (Below.refl _ w).drew.trans hb⟩


theorem Bld.fresh (w : World) : Bld w.heap.size w.heap.size (.pointer none) (.slice none 0 0) [] (w.alloc (.cells #[.pointer none, .slice none 0 0] 53)) :=
  ⟨heap_alloc_new w _, .inl rfl, World.ownsRow_nil _ _ _ _, by simp [Value.ownBlock], fun _ => rfl⟩

theorem Bld.drew {B b : Nat} {p v : Value} {l : List UInt8} {w : World} (h : Bld B b p v l w) : Bld B b p v l w.drew := ⟨h.heap, h.addr, h.owns, h.ne, h.nil⟩

theorem Own.base {B b : Nat} {p v : Value} {l : List UInt8} {w : World} (h : Bld B b p v l w) (hb : B ≤ b) (k : Nat) (hk : Own b v k) : B ≤ k := by
  rcases hk with rfl | hk
  · exact hb
  · exact (h.base k hk).1

set_option maxHeartbeats 2000000 in
set_option maxRecDepth 100000 in
theorem syntax_many (R : Nat) (zs : List (Int × Int)) (w : World) (ht : w.cell? ⟨2, 15, none⟩ = some (.int .u8 4)) (hfit : Fit zs) (hR : RunesAt R zs w) (hn : 2 ≤ zs.length ∨ ∃ z, zs = [z] ∧ ¬ z.1 = z.2) (hm : zs.length ≤ 1000000) :
    Calls Tryf.prog 19 #[.slice (some ⟨R, 0, none⟩) zs.length zs.length] w fun e w' => e = .returned (.string ⟨([91] ++ body zs ++ [93]).toArray⟩) ∧ Below w.heap.size w w' := by
  obtain ⟨n, hN⟩ : ∃ n, n = zs.length := ⟨_, rfl⟩
  have HN : Hid (n = zs.length) := hN
  rw [← hN] at hn hm ⊢
  rcases hn with hn | ⟨z0, hz0, hne⟩
  · clear hN
    have t0 : ((n : Int) == 0) = false := by simp; omega
    have t1 : ((n : Int) == 1) = false := by simp; omega
    have t2 : (n == 1) = false := by simp; omega
    have t3 : (n == 0) = false := by simp; omega
    go_enter Tryf.func19, Tryf.ntmps19
    go_wp2
    go_region
    go_wp2_with fail
    refine (writeByte_any w.heap.size w.heap.size _ _ [] 91 _ (Bld.fresh w).drew (by simp) (by simp [World.drew])).mono ?_
    rintro e w1 ⟨rfl, v1, hbld, hkp⟩
    have hbel : Below w.heap.size w w1 := ((Below.refl _ w).alloc (Nat.le_refl _) _).drew.trans (hkp.below (by simp) (fun k hk => by
      rcases hk with rfl | hk
      · exact Nat.le_refl _
      · simp [Value.ownBlock] at hk))
    go_wp2
    go_loopw [33] (fun a wr => ∃ (k : Nat) (v : Value), a = .int .i64 k ∧ k ≤ n ∧ Bld w.heap.size w.heap.size (.pointer (some ⟨w.heap.size, 0, none⟩)) v ([91] ++ body (zs.take k)) wr ∧ Below w.heap.size w wr)
      (fun a _ => n - (intOf a).toNat)
    case atStart => exact ⟨0, v1, rfl, by omega, by simpa [body] using hbld, hbel⟩
    case round =>
      obtain ⟨k, v, rfl, hk, hbld, hbel⟩ := hrel
      by_cases hlt : k < n
      · have hlt' : (k : Int) < (n : Int) := by omega
        obtain ⟨z, hz⟩ : ∃ z, zs[k]? = some z := ⟨_, List.getElem?_eq_getElem (by rw [← HN.out]; exact hlt)⟩
        have HZ : Hid (zs[k]? = some z) := hz
        have hc := hR k z hz
        have c0 := (hbel.cell (p := ⟨R, k * 2, none⟩) (World.block_lt_of_cell? _ _ hc.1)).trans hc.1
        have c1 := (hbel.cell (p := ⟨R, k * 2 + 1, none⟩) (World.block_lt_of_cell? _ _ hc.2)).trans hc.2
        have hft := hfit z (List.mem_of_getElem? hz)
        clear hz hc
        have hBl := Keeps.lt hbld.heap
        have hlen : ([91] ++ body (zs.take k)).length ≤ 29000001 := by
          have := body_len (zs.take k)
          have h2 : (zs.take k).length ≤ n := by rw [HN.out]; simp [List.length_take]; omega
          simp only [List.length_append, List.length_cons, List.length_nil]; omega
        have HL : Hid (([91] ++ body (zs.take k)).length ≤ 29000001) := hlen
        have HB : Hid (one z = rsyn z.1 ++ (if z.2 = z.1 then [] else 45 :: rsyn z.2)) := rfl
        have HK : Hid (body (zs.take (k + 1)) = body (zs.take k) ++ one z) := by
          show body (zs.take (k + 1)) = body (zs.take k) ++ one z
          rw [List.take_add_one, HZ.out, body_append]; simp [body]
        clear hlen
        obtain ⟨l0, hl0⟩ : ∃ l0, l0 = [91] ++ body (zs.take k) := ⟨_, rfl⟩
        have HL0 : Hid (l0 = [91] ++ body (zs.take k)) := hl0
        have HL1 : l0.length ≤ 29000001 := by rw [hl0]; exact HL.out
        rw [← hl0] at hbld
        clear hl0 HL
        have r1 := rsyn_len z.1
        have r2 := rsyn_len z.2
        obtain ⟨s1, hs1⟩ : ∃ s1, s1 = rsyn z.1 := ⟨_, rfl⟩
        obtain ⟨s2, hs2⟩ : ∃ s2, s2 = rsyn z.2 := ⟨_, rfl⟩
        have HS1 : Hid (s1 = rsyn z.1) := hs1
        have HS2 : Hid (s2 = rsyn z.2) := hs2
        rw [← hs1] at r1
        rw [← hs2] at r2
        have Q1 : ∀ w : World, w.cell? ⟨2, 15, none⟩ = some (.int .u8 4) → Calls Tryf.prog 25 #[.int .i32 z.1] w fun e w' => e = .returned (.string ⟨s1.toArray⟩) ∧ Below w.heap.size w w' := by rw [hs1]; exact fun w h => rune_any z.1 w h hft.1.1 hft.1.2
        have Q2 : ∀ w : World, w.cell? ⟨2, 15, none⟩ = some (.int .u8 4) → Calls Tryf.prog 25 #[.int .i32 z.2] w fun e w' => e = .returned (.string ⟨s2.toArray⟩) ∧ Below w.heap.size w w' := by rw [hs2]; exact fun w h => rune_any z.2 w h hft.2.1 hft.2.2
        clear hs1 hs2
        have ht2 := World.block_lt_of_cell? _ _ ht
        go_wp2_with fail
        have b1 := hbel.alloc hbel.size (.cells #[.int .i32 z.1, .int .i32 z.2] 42)
        refine (Q1 _ ((b1.cell (p := ⟨2, 15, none⟩) ht2).trans ht)).mono ?_
        rintro e w2 ⟨rfl, hb2⟩
        have k2 : Keeps (fun _ => False) wr w2 := ((Keeps.refl _ wr).alloc _).trans (Keeps.of_below hb2)
        have bld2 := hbld.kept k2 (fun h => h) (fun _ _ h => h)
        have e2 : w2.heap[wr.heap.size]? = some (.cells #[.int .i32 z.1, .int .i32 z.2] 42 (0, 0)) := (Keeps.of_below (S := fun _ => False) hb2).at (heap_alloc_new wr _) (fun h => h)
        have sz2 : w.heap.size ≤ w2.heap.size := by have := k2.size; omega
        have bel2 : Below w.heap.size w w2 := hbel.trans (k2.below (by omega) (fun _ h => h.elim))
        go_wp2_with fail
        refine (writeString_any _ _ _ _ _ s1 w2 bld2 (by omega) sz2).mono ?_
        rintro e w3 ⟨rfl, v3, bld3, k3⟩
        have e3 : w3.heap[wr.heap.size]? = some (.cells #[.int .i32 z.1, .int .i32 z.2] 42 (0, 0)) := k3.at e2 (by
          rintro (h | h)
          · omega
          · have := (hbld.base _ h).2; omega)
        have bel3 : Below w.heap.size w w3 := bel2.trans (k3.below sz2 (Own.base bld2 (Nat.le_refl _)))
        have p0 : w3.cell? ⟨wr.heap.size, 0, none⟩ = some (.int .i32 z.1) := by rw [Lib.cell_of_heap e3]; rfl
        have p1 : w3.cell? ⟨wr.heap.size, 1, none⟩ = some (.int .i32 z.2) := by rw [Lib.cell_of_heap e3]; rfl
        by_cases hzz : z.2 = z.1
        · have hq : (z.2 != z.1) = false := by simp [hzz]
          have HQ : Hid (z.2 = z.1) := hzz
          clear hzz
          go_wp2
          go_roundw
          case rel => exact ⟨k + 1, v3, by go_num, by omega, by rw [HK.out, HB.out, if_pos HQ.out, ← HS1.out]; simpa [HL0.out] using bld3, bel3⟩
          case measure => simp [intOf]; omega
        · have hq : (z.2 != z.1) = true := by simp [hzz]
          have HQ : Hid (¬ z.2 = z.1) := hzz
          clear hzz
          have l3 : (l0 ++ s1).length ≤ 29000100 := by simp; omega
          go_wp2_with fail
          refine (writeByte_any _ _ _ _ (l0 ++ s1) 45 w3 bld3 (by omega) bel3.size).mono ?_
          rintro e w4 ⟨rfl, v4, bld4, k4⟩
          have e4 : w4.heap[wr.heap.size]? = some (.cells #[.int .i32 z.1, .int .i32 z.2] 42 (0, 0)) := k4.at e3 (by
            rintro (h | h)
            · omega
            · exact (Lib.ownBlock_ne bld3.owns e3 (by decide)) h)
          have bel4 : Below w.heap.size w w4 := bel3.trans (k4.below bel3.size (Own.base bld3 (Nat.le_refl _)))
          have p2 : w4.cell? ⟨wr.heap.size, 1, none⟩ = some (.int .i32 z.2) := by rw [Lib.cell_of_heap e4]; rfl
          go_wp2_with fail
          refine (Q2 _ ((bel4.cell (p := ⟨2, 15, none⟩) ht2).trans ht)).mono ?_
          rintro e w5 ⟨rfl, hb5⟩
          have k5 : Keeps (fun _ => False) w4 w5 := Keeps.of_below hb5
          have bld5 := bld4.kept k5 (fun h => h) (fun _ _ h => h)
          have bel5 : Below w.heap.size w w5 := bel4.trans (k5.below bel4.size (fun _ h => h.elim))
          have l5 : (l0 ++ s1 ++ [45]).length ≤ 29000200 := by simp; omega
          go_wp2_with fail
          refine (writeString_any _ _ _ _ (l0 ++ s1 ++ [45]) s2 w5 bld5 (by omega) bel5.size).mono ?_
          rintro e w6 ⟨rfl, v6, bld6, k6⟩
          have bel6 : Below w.heap.size w w6 := bel5.trans (k6.below bel5.size (Own.base bld5 (Nat.le_refl _)))
          go_wp2
          go_roundw
          case rel => exact ⟨k + 1, v6, by go_num, by omega, by rw [HK.out, HB.out, if_neg HQ.out, ← HS1.out, ← HS2.out]; simpa [HL0.out] using bld6, bel6⟩
          case measure => simp [intOf]; omega
      · have hkn : k = n := by omega
        have hlt' : ¬ (k : Int) < (n : Int) := by omega
        have hl : ([91] ++ body (zs.take k)) = [91] ++ body zs := by rw [hkn, HN.out, List.take_length]
        rw [hl] at hbld
        have hlen : ([91] ++ body zs).length ≤ 29000001 := by
          have := body_len zs
          have h2 := HN.out
          simp only [List.length_append, List.length_cons, List.length_nil]; omega
        generalize hbz : [91] ++ body zs = l0 at hbld hlen
        have HZ0 : Hid ([91] ++ body zs = l0) := hbz
        clear hl hbz
        go_wp2_with fail
        refine (writeByte_any _ _ _ _ l0 93 wr hbld (by omega) hbel.size).mono ?_
        rintro e w4 ⟨rfl, v4, bld4, k4⟩
        have bel4 : Below w.heap.size w w4 := hbel.trans (k4.below hbel.size (Own.base hbld (Nat.le_refl _)))
        go_wp2_with fail
        refine (string_any _ _ _ _ (l0 ++ [93]) w4 bld4).mono ?_
        rintro e w5 ⟨rfl, k5⟩
        go_wp2
        go_ret
        exact ⟨ret_st (by rw [← HZ0.out]; rfl), bel4.trans (k5.below bel4.size (fun k hk => (bld4.base k hk).1))⟩
  · have hn1 : n = 1 := by rw [hN, hz0]; rfl
    have hn : 0 < n := by omega
    have hc := hR 0 z0 (by rw [hz0]; rfl)
    clear hN
    have t0 : ((n : Int) == 0) = false := by simp; omega
    have t1 : ((n : Int) == 1) = true := by simp; omega
    have t2 : (n == 1) = true := by simp; omega
    have t3 : (n == 0) = false := by simp; omega
    have t4 : (z0.1 == z0.2) = false := by simpa using hne
    have d0 : w.drew.cell? ⟨R, 0, none⟩ = some (.int .i32 z0.1) := by simpa using hc.1
    have d1 : w.drew.cell? ⟨R, 1, none⟩ = some (.int .i32 z0.2) := by simpa using hc.2
    clear hc hz0 hn1
    go_enter Tryf.func19, Tryf.ntmps19
    go_wp2
    go_region
    go_wp2_with fail
    refine (writeByte_any w.heap.size w.heap.size _ _ [] 91 _ (Bld.fresh w).drew (by simp) (by simp [World.drew])).mono ?_
    rintro e w1 ⟨rfl, v1, hbld, hkp⟩
    have hbel : Below w.heap.size w w1 := ((Below.refl _ w).alloc (Nat.le_refl _) _).drew.trans (hkp.below (by simp) (fun k hk => by
      rcases hk with rfl | hk
      · exact Nat.le_refl _
      · simp [Value.ownBlock] at hk))
    go_wp2
    go_loopw [33] (fun a wr => ∃ (k : Nat) (v : Value), a = .int .i64 k ∧ k ≤ n ∧ Bld w.heap.size w.heap.size (.pointer (some ⟨w.heap.size, 0, none⟩)) v ([91] ++ body (zs.take k)) wr ∧ Below w.heap.size w wr)
      (fun a _ => n - (intOf a).toNat)
    case atStart => exact ⟨0, v1, rfl, by omega, by simpa [body] using hbld, hbel⟩
    case round =>
      obtain ⟨k, v, rfl, hk, hbld, hbel⟩ := hrel
      by_cases hlt : k < n
      · have hlt' : (k : Int) < (n : Int) := by omega
        obtain ⟨z, hz⟩ : ∃ z, zs[k]? = some z := ⟨_, List.getElem?_eq_getElem (by rw [← HN.out]; exact hlt)⟩
        have HZ : Hid (zs[k]? = some z) := hz
        have hc := hR k z hz
        have c0 := (hbel.cell (p := ⟨R, k * 2, none⟩) (World.block_lt_of_cell? _ _ hc.1)).trans hc.1
        have c1 := (hbel.cell (p := ⟨R, k * 2 + 1, none⟩) (World.block_lt_of_cell? _ _ hc.2)).trans hc.2
        have hft := hfit z (List.mem_of_getElem? hz)
        clear hz hc
        have hBl := Keeps.lt hbld.heap
        have hlen : ([91] ++ body (zs.take k)).length ≤ 29000001 := by
          have := body_len (zs.take k)
          have h2 : (zs.take k).length ≤ n := by rw [HN.out]; simp [List.length_take]; omega
          simp only [List.length_append, List.length_cons, List.length_nil]; omega
        have HL : Hid (([91] ++ body (zs.take k)).length ≤ 29000001) := hlen
        have HB : Hid (one z = rsyn z.1 ++ (if z.2 = z.1 then [] else 45 :: rsyn z.2)) := rfl
        have HK : Hid (body (zs.take (k + 1)) = body (zs.take k) ++ one z) := by
          show body (zs.take (k + 1)) = body (zs.take k) ++ one z
          rw [List.take_add_one, HZ.out, body_append]; simp [body]
        clear hlen
        obtain ⟨l0, hl0⟩ : ∃ l0, l0 = [91] ++ body (zs.take k) := ⟨_, rfl⟩
        have HL0 : Hid (l0 = [91] ++ body (zs.take k)) := hl0
        have HL1 : l0.length ≤ 29000001 := by rw [hl0]; exact HL.out
        rw [← hl0] at hbld
        clear hl0 HL
        have r1 := rsyn_len z.1
        have r2 := rsyn_len z.2
        obtain ⟨s1, hs1⟩ : ∃ s1, s1 = rsyn z.1 := ⟨_, rfl⟩
        obtain ⟨s2, hs2⟩ : ∃ s2, s2 = rsyn z.2 := ⟨_, rfl⟩
        have HS1 : Hid (s1 = rsyn z.1) := hs1
        have HS2 : Hid (s2 = rsyn z.2) := hs2
        rw [← hs1] at r1
        rw [← hs2] at r2
        have Q1 : ∀ w : World, w.cell? ⟨2, 15, none⟩ = some (.int .u8 4) → Calls Tryf.prog 25 #[.int .i32 z.1] w fun e w' => e = .returned (.string ⟨s1.toArray⟩) ∧ Below w.heap.size w w' := by rw [hs1]; exact fun w h => rune_any z.1 w h hft.1.1 hft.1.2
        have Q2 : ∀ w : World, w.cell? ⟨2, 15, none⟩ = some (.int .u8 4) → Calls Tryf.prog 25 #[.int .i32 z.2] w fun e w' => e = .returned (.string ⟨s2.toArray⟩) ∧ Below w.heap.size w w' := by rw [hs2]; exact fun w h => rune_any z.2 w h hft.2.1 hft.2.2
        clear hs1 hs2
        have ht2 := World.block_lt_of_cell? _ _ ht
        go_wp2_with fail
        have b1 := hbel.alloc hbel.size (.cells #[.int .i32 z.1, .int .i32 z.2] 42)
        refine (Q1 _ ((b1.cell (p := ⟨2, 15, none⟩) ht2).trans ht)).mono ?_
        rintro e w2 ⟨rfl, hb2⟩
        have k2 : Keeps (fun _ => False) wr w2 := ((Keeps.refl _ wr).alloc _).trans (Keeps.of_below hb2)
        have bld2 := hbld.kept k2 (fun h => h) (fun _ _ h => h)
        have e2 : w2.heap[wr.heap.size]? = some (.cells #[.int .i32 z.1, .int .i32 z.2] 42 (0, 0)) := (Keeps.of_below (S := fun _ => False) hb2).at (heap_alloc_new wr _) (fun h => h)
        have sz2 : w.heap.size ≤ w2.heap.size := by have := k2.size; omega
        have bel2 : Below w.heap.size w w2 := hbel.trans (k2.below (by omega) (fun _ h => h.elim))
        go_wp2_with fail
        refine (writeString_any _ _ _ _ _ s1 w2 bld2 (by omega) sz2).mono ?_
        rintro e w3 ⟨rfl, v3, bld3, k3⟩
        have e3 : w3.heap[wr.heap.size]? = some (.cells #[.int .i32 z.1, .int .i32 z.2] 42 (0, 0)) := k3.at e2 (by
          rintro (h | h)
          · omega
          · have := (hbld.base _ h).2; omega)
        have bel3 : Below w.heap.size w w3 := bel2.trans (k3.below sz2 (Own.base bld2 (Nat.le_refl _)))
        have p0 : w3.cell? ⟨wr.heap.size, 0, none⟩ = some (.int .i32 z.1) := by rw [Lib.cell_of_heap e3]; rfl
        have p1 : w3.cell? ⟨wr.heap.size, 1, none⟩ = some (.int .i32 z.2) := by rw [Lib.cell_of_heap e3]; rfl
        by_cases hzz : z.2 = z.1
        · have hq : (z.2 != z.1) = false := by simp [hzz]
          have HQ : Hid (z.2 = z.1) := hzz
          clear hzz
          go_wp2
          go_roundw
          case rel => exact ⟨k + 1, v3, by go_num, by omega, by rw [HK.out, HB.out, if_pos HQ.out, ← HS1.out]; simpa [HL0.out] using bld3, bel3⟩
          case measure => simp [intOf]; omega
        · have hq : (z.2 != z.1) = true := by simp [hzz]
          have HQ : Hid (¬ z.2 = z.1) := hzz
          clear hzz
          have l3 : (l0 ++ s1).length ≤ 29000100 := by simp; omega
          go_wp2_with fail
          refine (writeByte_any _ _ _ _ (l0 ++ s1) 45 w3 bld3 (by omega) bel3.size).mono ?_
          rintro e w4 ⟨rfl, v4, bld4, k4⟩
          have e4 : w4.heap[wr.heap.size]? = some (.cells #[.int .i32 z.1, .int .i32 z.2] 42 (0, 0)) := k4.at e3 (by
            rintro (h | h)
            · omega
            · exact (Lib.ownBlock_ne bld3.owns e3 (by decide)) h)
          have bel4 : Below w.heap.size w w4 := bel3.trans (k4.below bel3.size (Own.base bld3 (Nat.le_refl _)))
          have p2 : w4.cell? ⟨wr.heap.size, 1, none⟩ = some (.int .i32 z.2) := by rw [Lib.cell_of_heap e4]; rfl
          go_wp2_with fail
          refine (Q2 _ ((bel4.cell (p := ⟨2, 15, none⟩) ht2).trans ht)).mono ?_
          rintro e w5 ⟨rfl, hb5⟩
          have k5 : Keeps (fun _ => False) w4 w5 := Keeps.of_below hb5
          have bld5 := bld4.kept k5 (fun h => h) (fun _ _ h => h)
          have bel5 : Below w.heap.size w w5 := bel4.trans (k5.below bel4.size (fun _ h => h.elim))
          have l5 : (l0 ++ s1 ++ [45]).length ≤ 29000200 := by simp; omega
          go_wp2_with fail
          refine (writeString_any _ _ _ _ (l0 ++ s1 ++ [45]) s2 w5 bld5 (by omega) bel5.size).mono ?_
          rintro e w6 ⟨rfl, v6, bld6, k6⟩
          have bel6 : Below w.heap.size w w6 := bel5.trans (k6.below bel5.size (Own.base bld5 (Nat.le_refl _)))
          go_wp2
          go_roundw
          case rel => exact ⟨k + 1, v6, by go_num, by omega, by rw [HK.out, HB.out, if_neg HQ.out, ← HS1.out, ← HS2.out]; simpa [HL0.out] using bld6, bel6⟩
          case measure => simp [intOf]; omega
      · have hkn : k = n := by omega
        have hlt' : ¬ (k : Int) < (n : Int) := by omega
        have hl : ([91] ++ body (zs.take k)) = [91] ++ body zs := by rw [hkn, HN.out, List.take_length]
        rw [hl] at hbld
        have hlen : ([91] ++ body zs).length ≤ 29000001 := by
          have := body_len zs
          have h2 := HN.out
          simp only [List.length_append, List.length_cons, List.length_nil]; omega
        generalize hbz : [91] ++ body zs = l0 at hbld hlen
        have HZ0 : Hid ([91] ++ body zs = l0) := hbz
        clear hl hbz
        go_wp2_with fail
        refine (writeByte_any _ _ _ _ l0 93 wr hbld (by omega) hbel.size).mono ?_
        rintro e w4 ⟨rfl, v4, bld4, k4⟩
        have bel4 : Below w.heap.size w w4 := hbel.trans (k4.below hbel.size (Own.base hbld (Nat.le_refl _)))
        go_wp2_with fail
        refine (string_any _ _ _ _ (l0 ++ [93]) w4 bld4).mono ?_
        rintro e w5 ⟨rfl, k5⟩
        go_wp2
        go_ret
        exact ⟨ret_st (by rw [← HZ0.out]; rfl), bel4.trans (k5.below bel4.size (fun k hk => (bld4.base k hk).1))⟩

theorem syntax_any (R : Nat) (zs : List (Int × Int)) (w : World) (ht : w.cell? ⟨2, 15, none⟩ = some (.int .u8 4)) (hfit : Fit zs) (hR : RunesAt R zs w) (hm : zs.length ≤ 1000000) :
    Calls Tryf.prog 19 #[.slice (some ⟨R, 0, none⟩) zs.length zs.length] w fun e w' => e = .returned (.string ⟨(syn zs).toArray⟩) ∧ Below w.heap.size w w' := by
  match zs, hfit, hR, hm with
  | [], _, _, _ => exact syntax_nil R w
  | [(a, b)], hfit, hR, hm =>
    by_cases h : a = b
    · subst h
      have hc := hR 0 (a, a) rfl
      have hf := (hfit (a, a) (by simp)).1
      exact syntax_one R a w ht hf.1 hf.2 (by simpa using hc.1) (by simpa using hc.2)
    · have := syntax_many R [(a, b)] w ht hfit hR (.inr ⟨(a, b), rfl, h⟩) hm
      have e : syn [(a, b)] = [91] ++ body [(a, b)] ++ [93] := by rw [syn, if_neg h]
      rw [e]
      exact this
  | z1 :: z2 :: zs, hfit, hR, hm => exact syntax_many R (z1 :: z2 :: zs) w ht hfit hR (.inl (by simp)) hm

set_option maxHeartbeats 400000 in
theorem zzSyntax_any (R : Nat) (zs : List (Int × Int)) (w : World) (ht : w.cell? ⟨2, 15, none⟩ = some (.int .u8 4)) (hfit : Fit zs) (hR : RunesAt R zs w) (hm : zs.length ≤ 1000000) :
    Calls Tryf.prog 11 #[.slice (some ⟨R, 0, none⟩) zs.length zs.length] w fun e w' => e = .returned (.string ⟨(syn zs).toArray⟩) ∧ Below w.heap.size w w' := by
  have Q := syntax_any R zs w ht hfit hR hm
  generalize syn zs = t at Q ⊢
  generalize zs.length = n at Q ⊢
  go_enter Tryf.func11, Tryf.ntmps11
  go_wp2_with fail
  refine Q.mono ?_
  rintro e w1 ⟨rfl, hb⟩
  go_wp2
  go_ret
  exact ⟨rfl, hb⟩

end Go.Proofs.Qxb6613280aFmt
