/-
  The small functions of the harness: ZZranges, ZZcost, ZZtext, ZZout, newECMAParser, ZZnewECMAParser, ZZnewBuilder, ZZsetBudget, by contracts.
-/
import Derived.Test.Qxb6613280aFmtSet
namespace Go.Proofs.Qxb6613280aFmt
open Go.ChangeShapes Go.WideShapes Go.ChangeAt Go.RowKit Go.Extern.Stop Go.Stop Go.Extern

set_option maxHeartbeats 400000 in
theorem zzRanges (P : Nat) (o : Value) (r c : Int) (w : World) (h : Par P o r c w) :
    Calls Tryf.prog 9 #[.pointer (some ⟨P, 0, none⟩)] w fun e w' => e = .returned (.int .i64 r) ∧ w' = w := by
  have c3 := h.cell3
  go_enter Tryf.func9, Tryf.ntmps9
  go_wp2
  go_ret
  exact ⟨rfl, rfl⟩

set_option maxHeartbeats 400000 in
theorem zzCost (P : Nat) (o : Value) (r c : Int) (w : World) (h : Par P o r c w) :
    Calls Tryf.prog 10 #[.pointer (some ⟨P, 0, none⟩)] w fun e w' => e = .returned (.int .i64 c) ∧ w' = w := by
  have c5 := h.cell5
  go_enter Tryf.func10, Tryf.ntmps10
  go_wp2
  go_ret
  exact ⟨rfl, rfl⟩

set_option maxHeartbeats 400000 in
theorem zzOut (P : Nat) (o : Option Addr) (r c : Int) (w : World) (h : Par P (.pointer o) r c w) :
    Calls Tryf.prog 13 #[.pointer (some ⟨P, 0, none⟩)] w fun e w' => e = .returned (.pointer o) ∧ w' = w := by
  have c2 := h.cell2
  go_enter Tryf.func13, Tryf.ntmps13
  go_wp2
  go_ret
  exact ⟨rfl, rfl⟩

set_option maxHeartbeats 400000 in
theorem zzText (B P b : Nat) (p v : Value) (r c : Int) (l : List UInt8) (w : World) (h : Par P (.pointer (some ⟨b, 0, none⟩)) r c w) (hb : Bld B b p v l w) :
    Calls Tryf.prog 12 #[.pointer (some ⟨P, 0, none⟩)] w fun e w' => e = .returned (.string ⟨l.toArray⟩) ∧ Keeps (fun k => v.ownBlock = some k) w w' := by
  have c2 := h.cell2
  have Q := string_any B b p v l w hb
  generalize (⟨l.toArray⟩ : ByteArray) = st at Q ⊢
  go_enter Tryf.func12, Tryf.ntmps12
  go_wp2_with fail
  refine Q.mono ?_
  rintro e w1 ⟨rfl, hk⟩
  go_wp2
  go_ret
  exact ⟨rfl, hk⟩

set_option maxHeartbeats 400000 in
theorem zzSetBudget (P : Nat) (o : Value) (r c r' c' : Int) (w : World) (h : Par P o r c w) :
    Calls Tryf.prog 17 #[.pointer (some ⟨P, 0, none⟩), .int .i64 r', .int .i64 c'] w fun e w' => e = .returned (.tuple #[]) ∧ Par P o r' c' w' ∧ Keeps (fun k => k = P) w w' := by
  have c3 := h.cell3
  have c5 := h.cell5
  have f3 := h.frozen 3
  have f5 := h.frozen 5
  go_enter Tryf.func17, Tryf.ntmps17
  go_wp2
  go_end0
  exact ⟨rfl, (h.set3 r').set5 c', ((Keeps.refl (fun k => k = P) w).setCell ⟨P, 3, none⟩ rfl _).setCell ⟨P, 5, none⟩ rfl _⟩

set_option maxHeartbeats 400000 in
theorem zzNewBuilder (l : List UInt8) (w : World) (hl : l.length ≤ 1000000000) :
    Calls Tryf.prog 15 #[.string ⟨l.toArray⟩] w fun e w' => e = .returned (.pointer (some ⟨w.heap.size, 0, none⟩)) ∧ ∃ p v, Bld w.heap.size w.heap.size p v l w' ∧ Below w.heap.size w w' := by
  have Q := fun w' h => writeString_any w.heap.size w.heap.size (.pointer none) (.slice none 0 0) [] l w' h (by simp; omega)
  generalize (⟨l.toArray⟩ : ByteArray) = st at Q ⊢
  go_enter Tryf.func15, Tryf.ntmps15
  go_wp2_with fail
  refine (Q _ (Bld.fresh w) (by simp)).mono ?_
  rintro e w1 ⟨rfl, v, hb, hk⟩
  go_wp2
  go_ret
  exact ⟨rfl, _, v, by simpa using hb, ((Below.refl _ w).alloc (Nat.le_refl _) _).trans (hk.below (by simp) (Own.base (Bld.fresh w) (Nat.le_refl _)))⟩

theorem Qnew (w : World) (o : Obj) (k : Nat) (h : w.heap.size = k) : (w.alloc o).drew.heap[k]? = some o := by
  rw [← h]; exact heap_alloc_new w o

set_option maxHeartbeats 400000 in
theorem newParser (o : Option Addr) (w : World) :
    Calls Tryf.prog 22 #[.string ⟨#[]⟩, .pointer o] w fun e w' => ∃ P, e = .returned (.pointer (some ⟨P, 0, none⟩)) ∧ w.heap.size ≤ P ∧ Par P (.pointer o) 0 0 w' ∧ Below w.heap.size w w' := by
  obtain ⟨n, cap, ob, hconv⟩ : ∃ n cap ob, (convert 9 22 (.string ⟨#[]⟩)).run Tryf.prog w = .ok (.slice (some ⟨w.heap.size, 0, none⟩) n cap) (w.drew.alloc ob) :=
    ⟨_, _, _, run_runes_of_string w 9 22 21 ⟨#[]⟩ Tryf.underlying9 Tryf.underlying22 Tryf.underlying21 (by decide)⟩
  have hmm : ∀ t (w : World), (Instr.makeMap t none).run Tryf.prog w = .ok (.map (some w.heap.size)) (w.alloc (.map #[] 0)) := fun _ _ => rfl
  go_enter Tryf.func22, Tryf.ntmps22
  go_wp2
  go_ret
  refine ⟨_, rfl, by omega, ⟨_, _, _, _, _, _, _, _, Qnew _ _ _ (by simp)⟩, ?_⟩
  exact ((((Below.refl _ w).alloc (Nat.le_refl _) _).alloc (by simp) _).alloc (by simp; omega) _).alloc (by simp; omega) _ |>.drew

set_option maxHeartbeats 400000 in
theorem zzNewParser (o : Option Addr) (w : World) :
    Calls Tryf.prog 16 #[.string ⟨#[]⟩, .pointer o] w fun e w' => ∃ P, e = .returned (.pointer (some ⟨P, 0, none⟩)) ∧ w.heap.size ≤ P ∧ Par P (.pointer o) 0 0 w' ∧ Below w.heap.size w w' := by
  go_enter Tryf.func16, Tryf.ntmps16
  go_wp2_with fail
  refine (newParser o w).mono ?_
  rintro e w1 ⟨P, rfl, hP, h1, hb⟩
  go_wp2
  go_ret
  exact ⟨P, rfl, hP, h1, hb⟩

theorem info42 : (Tryf.prog.info? 42).map (fun i => (i.zero, i.size, i.bytes)) = some (some (.agg #[.int .i32 0, .int .i32 0]), 2, 8) := by kernel_rfl

/-- A slice of int32s, of whatever capacity, that holds xs. -/
structure Ints (a : Option Addr) (xs : List Int) (w : World) : Prop where
  at_ : ∀ j x, xs[j]? = some x → ∃ A o, a = some ⟨A, o, none⟩ ∧ w.cell? ⟨A, o + j, none⟩ = some (.int .i32 x)

theorem setCell_row (w : World) (b j : Nat) (cs : Array Value) (t : TypeId) (u : Value) (h : w.heap[b]? = some (.cells cs t (0, 0))) : (w.setCell ⟨b, j, none⟩ u).heap[b]? = some (.cells (cs.setIfInBounds j u) t (0, 0)) := by
  simp [World.setCell, Array.getElem?_modify, h]

set_option maxHeartbeats 1000000 in
set_option maxRecDepth 100000 in
theorem zzRunes (a1 a2 : Option Addr) (c1 c2 : Nat) (xs ys : List Int) (w : World) (h1 : Ints a1 xs w) (h2 : Ints a2 ys w) (hl : ys.length = xs.length) (hm : xs.length ≤ 1000000) :
    Calls Tryf.prog 6 #[.slice a1 xs.length c1, .slice a2 xs.length c2] w fun e w' => e = .returned (.slice (some ⟨w.heap.size, 0, none⟩) xs.length xs.length) ∧ RunesAt w.heap.size (xs.zip ys) w' ∧ Below w.heap.size w w' := by
  obtain ⟨n, hN⟩ : ∃ n, n = xs.length := ⟨_, rfl⟩
  have HN : Hid (n = xs.length) := hN
  rw [← hN] at hl hm ⊢
  clear hN
  obtain ⟨i0, hi, hz0, hz1, hz2⟩ := info_parts info42
  obtain ⟨cs0, hcs0, hmk⟩ : ∃ cs : Array Value, cs.size = n * 2 ∧ (Instr.makeSlice 25 (.int .i64 n) (.int .i64 n)).run Tryf.prog w = .ok (.slice (some ⟨w.heap.size, 0, none⟩) n n) (w.alloc (.cells cs 42)) := by
    have h := run_make (P := Tryf.prog) w 25 42 i0 _ Tryf.underlying25 hi hz0 .i64 .i64 n n (by omega) (Int.le_refl _) (by rw [hz2]; omega) (by omega)
    simp only [Int.toNat_natCast] at h
    rw [hz1] at h
    exact ⟨_, by simp [madeCells], h⟩
  clear hi hz0 hz1 hz2 i0
  go_enter Tryf.func6, Tryf.ntmps6
  go_wp2
  go_loopw [12] (fun a wr => ∃ (k : Nat) (cs : Array Value), a = .int .i64 k ∧ k ≤ n ∧ wr.heap[w.heap.size]? = some (.cells cs 42 (0, 0)) ∧ cs.size = n * 2 ∧ (∀ j z, j < k → (xs.zip ys)[j]? = some z → cs[j * 2]? = some (.int .i32 z.1) ∧ cs[j * 2 + 1]? = some (.int .i32 z.2)) ∧ Below w.heap.size w wr)
    (fun a _ => n - (intOf a).toNat)
  case atStart => exact ⟨0, cs0, rfl, by omega, heap_alloc_new w _, hcs0, fun j z hj => by omega, (Below.refl _ w).alloc (Nat.le_refl _) _⟩
  case round =>
    obtain ⟨k, cs, rfl, hk, hR, hcs, hpre, hbel⟩ := hrel
    by_cases hlt : k < n
    · have hlt' : (k : Int) < (n : Int) := by omega
      obtain ⟨x, hx⟩ : ∃ x, xs[k]? = some x := ⟨_, List.getElem?_eq_getElem (by rw [← HN.out]; exact hlt)⟩
      obtain ⟨y, hy⟩ : ∃ y, ys[k]? = some y := ⟨_, List.getElem?_eq_getElem (by rw [hl]; exact hlt)⟩
      have HX : Hid (xs[k]? = some x) := hx
      have HY : Hid (ys[k]? = some y) := hy
      obtain ⟨A1, o1, rfl, hc1⟩ := h1.at_ k x hx
      obtain ⟨A2, o2, rfl, hc2⟩ := h2.at_ k y hy
      clear hx hy
      have d1 : wr.drew.cell? ⟨A1, o1 + k, none⟩ = some (.int .i32 x) := (hbel.cell (p := ⟨A1, o1 + k, none⟩) (World.block_lt_of_cell? _ _ hc1)).trans hc1
      have d2 : wr.drew.cell? ⟨A2, o2 + k, none⟩ = some (.int .i32 y) := (hbel.cell (p := ⟨A2, o2 + k, none⟩) (World.block_lt_of_cell? _ _ hc2)).trans hc2
      clear hc1 hc2
      obtain ⟨u0, hu0⟩ : ∃ u, cs[k * 2]? = some u := ⟨_, Array.getElem?_eq_getElem (by omega)⟩
      obtain ⟨u1, hu1⟩ : ∃ u, cs[k * 2 + 1]? = some u := ⟨_, Array.getElem?_eq_getElem (by omega)⟩
      have e0 : wr.drew.cell? ⟨w.heap.size, k * 2, none⟩ = some u0 := by
        have : wr.drew.heap[w.heap.size]? = some (.cells cs 42 (0, 0)) := hR
        rw [Lib.cell_of_heap this]; exact hu0
      have e1 : wr.drew.cell? ⟨w.heap.size, k * 2 + 1, none⟩ = some u1 := by
        have : wr.drew.heap[w.heap.size]? = some (.cells cs 42 (0, 0)) := hR
        rw [Lib.cell_of_heap this]; exact hu1
      have f0 : wr.drew.frozen? ⟨w.heap.size, k * 2, none⟩ = false := Lib.frozen_of_heap (w := wr.drew) hR _
      have f1 : wr.drew.frozen? ⟨w.heap.size, k * 2 + 1, none⟩ = false := Lib.frozen_of_heap (w := wr.drew) hR _
      have HP : Hid (∀ j z, j < k → (xs.zip ys)[j]? = some z → cs[j * 2]? = some (.int .i32 z.1) ∧ cs[j * 2 + 1]? = some (.int .i32 z.2)) := hpre
      have d1' : wr.cell? ⟨A1, o1 + k, none⟩ = some (.int .i32 x) := d1
      have d2' : wr.cell? ⟨A2, o2 + k, none⟩ = some (.int .i32 y) := d2
      have e0' : wr.cell? ⟨w.heap.size, k * 2, none⟩ = some u0 := e0
      have e1' : wr.cell? ⟨w.heap.size, k * 2 + 1, none⟩ = some u1 := e1
      have f0' : wr.frozen? ⟨w.heap.size, k * 2, none⟩ = false := f0
      have f1' : wr.frozen? ⟨w.heap.size, k * 2 + 1, none⟩ = false := f1
      clear hpre hu0 hu1
      go_wp2
      go_region
      go_wp2
      go_roundw
      case rel =>
        refine ⟨k + 1, _, by go_num, by omega, setCell_row _ _ _ _ _ _ (setCell_row _ _ _ _ _ _ hR), by simp [hcs], ?_, ((hbel.setCell (p := ⟨w.heap.size, k * 2, none⟩) (Nat.le_refl _) _).setCell (p := ⟨w.heap.size, k * 2 + 1, none⟩) (Nat.le_refl _) _).drew⟩
        intro j z hj hz
        by_cases hjk : j = k
        · subst hjk
          have e := List.getElem?_zip_eq_some.1 hz
          have ex : z.1 = x := by have h := e.1.symm.trans HX.out; simpa using h
          have ey : z.2 = y := by have h := e.2.symm.trans HY.out; simpa using h
          rw [ex, ey]
          constructor
          · rw [Array.getElem?_setIfInBounds_ne (by omega), Array.getElem?_setIfInBounds_self_of_lt (by omega)]
          · rw [Array.getElem?_setIfInBounds_self_of_lt (by simp; omega)]
        · have := HP.out j z (by omega) hz
          constructor
          · rw [Array.getElem?_setIfInBounds_ne (by omega), Array.getElem?_setIfInBounds_ne (by omega)]; exact this.1
          · rw [Array.getElem?_setIfInBounds_ne (by omega), Array.getElem?_setIfInBounds_ne (by omega)]; exact this.2
      case measure => simp [intOf]; omega
    · have hkn : k = n := by omega
      have hlt' : ¬ (k : Int) < (n : Int) := by omega
      have HP : Hid (∀ j z, j < k → (xs.zip ys)[j]? = some z → cs[j * 2]? = some (.int .i32 z.1) ∧ cs[j * 2 + 1]? = some (.int .i32 z.2)) := hpre
      clear hpre
      go_wp2
      go_ret
      refine ⟨rfl, ?_, hbel⟩
      intro j z hz
      have hj : j < k := by
        have := (List.getElem?_eq_some_iff.1 (List.getElem?_zip_eq_some.1 hz).1).1
        rw [hkn, HN.out]; exact this
      have := HP.out j z hj hz
      rw [Lib.cell_of_heap hR, Lib.cell_of_heap hR]
      exact this

end Go.Proofs.Qxb6613280aFmt
