/-
  count, translating, addCost, write, writeMatch, writeSet, ZZwriteSet, by contracts.
-/
import Derived.Test.Qxb6613280aFmtErr
import Derived.Test.Qxb6613280aFmtSyn
namespace Go.Proofs.Qxb6613280aFmt
open Go.ChangeShapes Go.WideShapes Go.ChangeAt Go.RowKit Go.Extern.Stop Go.Stop Go.Extern

/-- A parser in block P: 'out' o, 'ranges' r, 'cost' c; the other fields are whatever they are. -/
def Par (P : Nat) (o : Value) (r c : Int) (w : World) : Prop :=
  ∃ x0 x1 x4 x6 x7 x8 x9 x10, w.heap[P]? = some (.cells #[x0, x1, o, .int .i64 r, x4, .int .i64 c, x6, x7, x8, x9, x10] 49 (0, 0))

section
variable {P : Nat} {o : Value} {r c : Int} {w w' : World}
theorem Par.cell2 (h : Par P o r c w) : w.cell? ⟨P, 2, none⟩ = some o := by
  obtain ⟨_, _, _, _, _, _, _, _, h⟩ := h; rw [Lib.cell_of_heap h]; rfl
theorem Par.cell3 (h : Par P o r c w) : w.cell? ⟨P, 3, none⟩ = some (.int .i64 r) := by
  obtain ⟨_, _, _, _, _, _, _, _, h⟩ := h; rw [Lib.cell_of_heap h]; rfl
theorem Par.cell5 (h : Par P o r c w) : w.cell? ⟨P, 5, none⟩ = some (.int .i64 c) := by
  obtain ⟨_, _, _, _, _, _, _, _, h⟩ := h; rw [Lib.cell_of_heap h]; rfl
theorem Par.frozen (h : Par P o r c w) (j : Nat) : w.frozen? ⟨P, j, none⟩ = false := by
  obtain ⟨_, _, _, _, _, _, _, _, h⟩ := h; exact Lib.frozen_of_heap h j
theorem Par.lt (h : Par P o r c w) : P < w.heap.size := by
  obtain ⟨_, _, _, _, _, _, _, _, h⟩ := h; exact Keeps.lt h
theorem Par.set3 (h : Par P o r c w) (r' : Int) : Par P o r' c (w.setCell ⟨P, 3, none⟩ (.int .i64 r')) := by
  obtain ⟨x0, x1, x4, x6, x7, x8, x9, x10, h⟩ := h
  exact ⟨x0, x1, x4, x6, x7, x8, x9, x10, by simp [World.setCell, Array.getElem?_modify, h]⟩
theorem Par.set5 (h : Par P o r c w) (c' : Int) : Par P o r c' (w.setCell ⟨P, 5, none⟩ (.int .i64 c')) := by
  obtain ⟨x0, x1, x4, x6, x7, x8, x9, x10, h⟩ := h
  exact ⟨x0, x1, x4, x6, x7, x8, x9, x10, by simp [World.setCell, Array.getElem?_modify, h]⟩
theorem Par.kept {S : Nat → Prop} (h : Par P o r c w) (k : Keeps S w w') (hS : ¬ S P) : Par P o r c w' := by
  obtain ⟨x0, x1, x4, x6, x7, x8, x9, x10, h⟩ := h
  exact ⟨x0, x1, x4, x6, x7, x8, x9, x10, k.at h hS⟩
end

theorem setCell_size (w : World) (p : Addr) (v : Value) : (w.setCell p v).heap.size = w.heap.size := by simp [World.setCell]

theorem err_step (F : Interp) (p : Value) (s : ByteArray) (hf : Tryf.Two (s ++ Tryf.tail)) (hs : s.size ≤ 1000) (x pos : Int) (P j : Nat) (u : Value) (w : World) (hF : F.answers w.tape) :
    Calls Tryf.prog 28 #[p, .int .i64 pos, .string s, .slice (some ⟨w.heap.size, 0, none⟩) 1 1] ((w.setCell ⟨P, j, none⟩ u).alloc (.cells #[.iface 3 (.int .i64 x)] 20)) fun e w' =>
      (∃ q, e = .returned (.iface 78 q)) ∧ Keeps (fun _ => False) (w.setCell ⟨P, j, none⟩ u) w' := by
  have e := setCell_size w ⟨P, j, none⟩ u
  have hF' : F.answers (w.setCell ⟨P, j, none⟩ u).tape := hF
  rw [← e]
  generalize w.setCell ⟨P, j, none⟩ u = w0 at hF' ⊢
  refine (errorAt_any F p s hf hs x pos w0.heap.size (w0.alloc (.cells #[.iface 3 (.int .i64 x)] 20)) hF' (heap_alloc_new _ _)).mono ?_
  rintro e w2 ⟨hq, hk⟩
  refine ⟨hq, hk.os, hk.tape, hk.output, ?_, ?_⟩
  · have := hk.size; simp at this; omega
  · intro k hkw _
    rw [hk.block k (by simp; omega) (by omega), Lib.alloc_old _ _ _ hkw]

set_option maxHeartbeats 800000 in
set_option maxRecDepth 100000 in
theorem count_ok (P R n : Nat) (o : Value) (r c pos : Int) (w : World) (h : Par P o r c w) (r0 : 0 ≤ r) (hr : r + n ≤ 100000) :
    Calls Tryf.prog 23 #[.pointer (some ⟨P, 0, none⟩), .int .i64 pos, .slice (some ⟨R, 0, none⟩) n n] w fun e w' =>
      e = .returned .nilIface ∧ Par P o (r + n) c w' ∧ Keeps (fun k => k = P) w w' := by
  have c3 := h.cell3
  have f3 := h.frozen 3
  have t : ¬ (100000 < r + n) := by omega
  go_enter Tryf.func23, Tryf.ntmps23
  go_wp2
  go_ret
  exact ⟨rfl, h.set3 _, (Keeps.refl (fun k => k = P) w).setCell ⟨P, 3, none⟩ rfl _⟩

set_option maxHeartbeats 800000 in
set_option maxRecDepth 100000 in
theorem count_bad (F : Interp) (P R n : Nat) (o : Value) (r c pos : Int) (w : World) (hF : F.answers w.tape) (h : Par P o r c w) (hr : 100000 < r + n) (hm : r + n ≤ 1000000000) :
    Calls Tryf.prog 23 #[.pointer (some ⟨P, 0, none⟩), .int .i64 pos, .slice (some ⟨R, 0, none⟩) n n] w fun e w' =>
      (∃ q, e = .returned (.iface 78 q)) ∧ Par P o (r + n) c w' ∧ Keeps (fun k => k = P) w w' := by
  have c3 := h.cell3
  have f3 := h.frozen 3
  go_enter Tryf.func23, Tryf.ntmps23
  go_wp2_with fail
  refine (err_step F _ Tryf.litA Tryf.twoA (by decide) 100000 pos P 3 (.int .i64 (r + n)) w hF).mono ?_
  rintro e w2 ⟨⟨q, rfl⟩, hk⟩
  have k1 := (Keeps.refl (fun k => k = P) w).setCell ⟨P, 3, none⟩ rfl (.int .i64 (r + n))
  go_wp2
  go_ret
  exact ⟨⟨q, rfl⟩, (h.set3 (r + n)).kept hk (fun h => h), k1.trans (hk.mono (fun _ _ h => h.elim))⟩

/-- By cases. -/
theorem count_any (F : Interp) (P R n : Nat) (o : Value) (r c pos : Int) (w : World) (hF : F.answers w.tape) (h : Par P o r c w) (r0 : 0 ≤ r) (hm : r + n ≤ 1000000000) :
    Calls Tryf.prog 23 #[.pointer (some ⟨P, 0, none⟩), .int .i64 pos, .slice (some ⟨R, 0, none⟩) n n] w fun e w' =>
      ((r + n ≤ 100000 ∧ e = .returned .nilIface) ∨ (100000 < r + n ∧ ∃ q, e = .returned (.iface 78 q))) ∧ Par P o (r + n) c w' ∧ Keeps (fun k => k = P) w w' := by
  by_cases hr : r + n ≤ 100000
  · exact (count_ok P R n o r c pos w h r0 hr).mono fun e w' ⟨he, hp, hk⟩ => ⟨.inl ⟨hr, he⟩, hp, hk⟩
  · exact (count_bad F P R n o r c pos w hF h (by omega) hm).mono fun e w' ⟨he, hp, hk⟩ => ⟨.inr ⟨by omega, he⟩, hp, hk⟩

set_option maxHeartbeats 800000 in
theorem translating_any (P : Nat) (o : Value) (r c : Int) (b : Bool) (w : World) (h : Par P o r c w) (ho : (b = true ∧ ∃ a, o = .pointer (some a)) ∨ (b = false ∧ o = .pointer none)) :
    Calls Tryf.prog 29 #[.pointer (some ⟨P, 0, none⟩)] w fun e w' => e = .returned (.bool b) ∧ w' = w := by
  have c2 := h.cell2
  rcases ho with ⟨rfl, a, rfl⟩ | ⟨rfl, rfl⟩
  · go_enter Tryf.func29, Tryf.ntmps29
    go_wp2
    go_ret
    exact ⟨rfl, rfl⟩
  · go_enter Tryf.func29, Tryf.ntmps29
    go_wp2
    go_ret
    exact ⟨rfl, rfl⟩

set_option maxHeartbeats 800000 in
set_option maxRecDepth 100000 in
theorem addCost_ok (P : Nat) (a : Addr) (r c pos d : Int) (w : World) (h : Par P (.pointer (some a)) r c w) (c0 : 0 ≤ c) (d0 : 0 ≤ d) (hc : c + d ≤ 8388608) :
    Calls Tryf.prog 30 #[.pointer (some ⟨P, 0, none⟩), .int .i64 pos, .int .i64 d] w fun e w' =>
      e = .returned .nilIface ∧ Par P (.pointer (some a)) r (c + d) w' ∧ Keeps (fun k => k = P) w w' := by
  have c5 := h.cell5
  have f5 := h.frozen 5
  have t : ¬ (8388608 < c + d) := by omega
  go_enter Tryf.func30, Tryf.ntmps30
  go_wp2_with fail
  refine (translating_any P _ r c true w h (.inl ⟨rfl, a, rfl⟩)).mono ?_
  rintro e w' ⟨rfl, rfl⟩
  go_wp2
  go_ret
  exact ⟨rfl, h.set5 _, (Keeps.refl (fun k => k = P) _).setCell ⟨P, 5, none⟩ rfl _⟩

set_option maxHeartbeats 800000 in
set_option maxRecDepth 100000 in
theorem addCost_bad (F : Interp) (P : Nat) (a : Addr) (r c pos d : Int) (w : World) (hF : F.answers w.tape) (h : Par P (.pointer (some a)) r c w) (hc : 8388608 < c + d) (hm : c + d ≤ 1000000000) :
    Calls Tryf.prog 30 #[.pointer (some ⟨P, 0, none⟩), .int .i64 pos, .int .i64 d] w fun e w' =>
      (∃ q, e = .returned (.iface 78 q)) ∧ Par P (.pointer (some a)) r (c + d) w' ∧ Keeps (fun k => k = P) w w' := by
  have c5 := h.cell5
  have f5 := h.frozen 5
  go_enter Tryf.func30, Tryf.ntmps30
  go_wp2_with fail
  refine (translating_any P _ r c true w h (.inl ⟨rfl, a, rfl⟩)).mono ?_
  rintro e w' ⟨rfl, rfl⟩
  go_wp2_with fail
  refine (err_step F _ Tryf.litB Tryf.twoB (by decide) 8 pos P 5 (.int .i64 (c + d)) _ hF).mono ?_
  rintro e w2 ⟨⟨q, rfl⟩, hk⟩
  have k1 := (Keeps.refl (fun k => k = P) w').setCell ⟨P, 5, none⟩ rfl (.int .i64 (c + d))
  go_wp2
  go_ret
  exact ⟨⟨q, rfl⟩, (h.set5 (c + d)).kept hk (fun h => h), k1.trans (hk.mono (fun _ _ h => h.elim))⟩

theorem addCost_any (F : Interp) (P : Nat) (a : Addr) (r c pos d : Int) (w : World) (hF : F.answers w.tape) (h : Par P (.pointer (some a)) r c w) (c0 : 0 ≤ c) (d0 : 0 ≤ d) (hm : c + d ≤ 1000000000) :
    Calls Tryf.prog 30 #[.pointer (some ⟨P, 0, none⟩), .int .i64 pos, .int .i64 d] w fun e w' =>
      ((c + d ≤ 8388608 ∧ e = .returned .nilIface) ∨ (8388608 < c + d ∧ ∃ q, e = .returned (.iface 78 q))) ∧ Par P (.pointer (some a)) r (c + d) w' ∧ Keeps (fun k => k = P) w w' := by
  by_cases hr : c + d ≤ 8388608
  · exact (addCost_ok P a r c pos d w h c0 d0 hr).mono fun e w' ⟨he, hp, hk⟩ => ⟨.inl ⟨hr, he⟩, hp, hk⟩
  · exact (addCost_bad F P a r c pos d w hF h (by omega) hm).mono fun e w' ⟨he, hp, hk⟩ => ⟨.inr ⟨by omega, he⟩, hp, hk⟩

theorem Keeps.cell {S : Nat → Prop} {w w' : World} (h : Keeps S w w') {p : Addr} {v : Value} (hc : w.cell? p = some v) (hS : ¬ S p.block) : w'.cell? p = some v :=
  (World.cell?_of_block (w := w) (h.block p.block (World.block_lt_of_cell? _ _ hc) hS)).trans hc
theorem RunesAt.kept {S : Nat → Prop} {R : Nat} {zs : List (Int × Int)} {w w' : World} (h : RunesAt R zs w) (k : Keeps S w w') (hS : ¬ S R) : RunesAt R zs w' :=
  fun j z hz => ⟨k.cell (h j z hz).1 hS, k.cell (h j z hz).2 hS⟩

theorem Par.ne {B b P : Nat} {p v o : Value} {r c : Int} {l : List UInt8} {w : World} (h : Par P o r c w) (hb : Bld B b p v l w) : ¬ Own b v P := by
  obtain ⟨_, _, _, _, _, _, _, _, h⟩ := h
  rintro (rfl | h')
  · rw [hb.heap] at h; simp at h
  · exact Lib.ownBlock_ne hb.owns h (by decide) h'

set_option maxHeartbeats 800000 in
theorem write_on (B P b : Nat) (p v : Value) (r c : Int) (l s : List UInt8) (w : World) (h : Par P (.pointer (some ⟨b, 0, none⟩)) r c w) (hb : Bld B b p v l w) (hlen : l.length + s.length ≤ 140737488355328) (hBw : B ≤ w.heap.size) :
    Calls Tryf.prog 31 #[.pointer (some ⟨P, 0, none⟩), .string ⟨s.toArray⟩] w fun e w' => e = .returned (.tuple #[]) ∧ ∃ v', Bld B b (.pointer (some ⟨b, 0, none⟩)) v' (l ++ s) w' ∧ Keeps (Own b v) w w' := by
  have c2 := h.cell2
  have Q := writeString_any B b p v l s w hb hlen hBw
  generalize (⟨s.toArray⟩ : ByteArray) = st at Q ⊢
  go_enter Tryf.func31, Tryf.ntmps31
  go_wp2_with fail
  refine (translating_any P _ r c true w h (.inl ⟨rfl, _, rfl⟩)).mono ?_
  rintro e w' ⟨rfl, rfl⟩
  go_wp2_with fail
  refine Q.mono ?_
  rintro e w1 ⟨rfl, v1, hb1, hk1⟩
  go_wp2
  go_end0
  exact ⟨rfl, v1, hb1, hk1⟩

set_option maxHeartbeats 800000 in
set_option maxRecDepth 100000 in
theorem writeMatch_off (P R n : Nat) (r c pos : Int) (w : World) (h : Par P (.pointer none) r c w) :
    Calls Tryf.prog 24 #[.pointer (some ⟨P, 0, none⟩), .int .i64 pos, .slice (some ⟨R, 0, none⟩) n n] w fun e w' => e = .returned .nilIface ∧ w' = w := by
  go_enter Tryf.func24, Tryf.ntmps24
  go_wp2_with fail
  refine (translating_any P _ r c false w h (.inr ⟨rfl, rfl⟩)).mono ?_
  rintro e w' ⟨rfl, rfl⟩
  go_wp2
  go_ret
  exact ⟨rfl, rfl⟩

/-- The blocks that a translating parser writes to. -/
def Both (P b : Nat) (v : Value) : Nat → Prop := fun k => k = P ∨ Own b v k

set_option maxHeartbeats 800000 in
set_option maxRecDepth 100000 in
theorem writeMatch_on (F : Interp) (B P b R : Nat) (p v : Value) (zs : List (Int × Int)) (r c pos : Int) (l : List UInt8) (w : World) (hF : F.answers w.tape) (h : Par P (.pointer (some ⟨b, 0, none⟩)) r c w) (hb : Bld B b p v l w)
    (hlen : l.length ≤ 1000000000) (hBw : B ≤ w.heap.size) (c0 : 0 ≤ c) (c1 : c ≤ 100000000) (hm : zs.length ≤ 1000000) (hfit : Fit zs) (hR : RunesAt R zs w) (ht : w.cell? ⟨2, 15, none⟩ = some (.int .u8 4)) (hRP : R ≠ P) (h2P : 2 ≠ P) :
    Calls Tryf.prog 24 #[.pointer (some ⟨P, 0, none⟩), .int .i64 pos, .slice (some ⟨R, 0, none⟩) zs.length zs.length] w fun e w' =>
      Par P (.pointer (some ⟨b, 0, none⟩)) r (c + (400 + zs.length * 32)) w' ∧ Keeps (Both P b v) w w' ∧
        ((c + (400 + zs.length * 32) ≤ 8388608 ∧ e = .returned .nilIface ∧ ∃ p' v', Bld B b p' v' (l ++ syn zs) w') ∨ (8388608 < c + (400 + zs.length * 32) ∧ (∃ q, e = .returned (.iface 78 q)) ∧ Bld B b p v l w')) := by
  have hsl := syn_len zs
  have Q := fun w ht hR => syntax_any R zs w ht hfit hR hm
  have hne := h.ne hb
  generalize syn zs = t at hsl Q ⊢
  obtain ⟨n, hN⟩ : ∃ n, n = zs.length := ⟨_, rfl⟩
  rw [← hN] at hm hsl Q ⊢
  have hd : (n : Int) ≤ 1000000 := by omega
  clear hN
  go_enter Tryf.func24, Tryf.ntmps24
  go_wp2_with fail
  refine (translating_any P _ r c true w h (.inl ⟨rfl, _, rfl⟩)).mono ?_
  rintro e w0 ⟨rfl, rfl⟩
  go_wp2_with fail
  refine (addCost_any F P ⟨b, 0, none⟩ r c pos (400 + n * 32) w0 hF h c0 (by omega) (by omega)).mono ?_
  rintro e w1 ⟨he, h1, k1⟩
  have hb1 := hb.kept k1 (fun e => hne (.inl e.symm)) (fun k hk e => hne (.inr (by rw [← e]; exact hk)))
  rcases he with ⟨hc, rfl⟩ | ⟨hc, q, rfl⟩
  · have ht1 := k1.cell ht h2P
    have hR1 := hR.kept k1 hRP
    go_wp2_with fail
    refine (Q w1 ht1 hR1).mono ?_
    rintro e w2 ⟨rfl, hb2⟩
    have k2 : Keeps (fun _ => False) w1 w2 := Keeps.of_below hb2
    go_wp2_with fail
    refine (write_on B P b p v r _ l t w2 (h1.kept k2 (fun h => h)) (hb1.kept k2 (fun h => h) (fun _ _ h => h)) (by omega) (by have := k1.size; have := k2.size; omega)).mono ?_
    rintro e w3 ⟨rfl, v3, hb3, k3⟩
    go_wp2
    go_ret
    refine ⟨(h1.kept k2 (fun h => h)).kept k3 hne, ?_, .inl ⟨hc, rfl, _, v3, hb3⟩⟩
    exact ((k1.mono (fun _ _ h => .inl h)).trans (k2.mono (fun _ _ h => h.elim))).trans (k3.mono (fun _ _ h => .inr h))
  · go_wp2
    go_ret
    exact ⟨h1, k1.mono (fun _ _ h => .inl h), .inr ⟨hc, ⟨q, rfl⟩, hb1⟩⟩

/-- What one call of writeSet does to a parser that does not translate. -/
def OffPost (P : Nat) (n : Nat) (r c : Int) (w : World) (e : Ending) (w' : World) : Prop :=
  Par P (.pointer none) (r + n) c w' ∧ Keeps (fun k => k = P) w w' ∧ ((r + n ≤ 100000 ∧ e = .returned .nilIface) ∨ (100000 < r + n ∧ ∃ q, e = .returned (.iface 78 q)))

set_option maxHeartbeats 800000 in
set_option maxRecDepth 100000 in
theorem writeSet_off (F : Interp) (P R n : Nat) (r c pos : Int) (w : World) (hF : F.answers w.tape) (h : Par P (.pointer none) r c w) (r0 : 0 ≤ r) (hm : r + n ≤ 1000000000) :
    Calls Tryf.prog 18 #[.pointer (some ⟨P, 0, none⟩), .int .i64 pos, .slice (some ⟨R, 0, none⟩) n n] w (OffPost P n r c w) := by
  unfold OffPost
  go_enter Tryf.func18, Tryf.ntmps18
  go_wp2_with fail
  refine (count_any F P R n _ r c pos w hF h r0 hm).mono ?_
  rintro e w1 ⟨he, h1, k1⟩
  rcases he with ⟨hc, rfl⟩ | ⟨hc, q, rfl⟩
  · go_wp2_with fail
    refine (writeMatch_off P R n _ c pos w1 h1).mono ?_
    rintro e w2 ⟨rfl, rfl⟩
    go_wp2
    go_ret
    exact ⟨h1, k1, .inl ⟨hc, rfl⟩⟩
  · go_wp2
    go_ret
    exact ⟨h1, k1, .inr ⟨hc, q, rfl⟩⟩

/-- .. and to one that translates. -/
def OnPost (B P b : Nat) (v : Value) (zs : List (Int × Int)) (r c : Int) (l : List UInt8) (w : World) (e : Ending) (w' : World) : Prop :=
  ∃ (p' v' : Value) (l' : List UInt8) (c' : Int), Par P (.pointer (some ⟨b, 0, none⟩)) (r + zs.length) c' w' ∧ Bld B b p' v' l' w' ∧ Keeps (Both P b v) w w' ∧
    ((100000 < r + zs.length ∧ (∃ q, e = .returned (.iface 78 q)) ∧ c' = c ∧ l' = l) ∨
     (r + zs.length ≤ 100000 ∧ 8388608 < c + (400 + zs.length * 32) ∧ (∃ q, e = .returned (.iface 78 q)) ∧ c' = c + (400 + zs.length * 32) ∧ l' = l) ∨
     (r + zs.length ≤ 100000 ∧ c + (400 + zs.length * 32) ≤ 8388608 ∧ e = .returned .nilIface ∧ c' = c + (400 + zs.length * 32) ∧ l' = l ++ syn zs))

set_option maxHeartbeats 800000 in
set_option maxRecDepth 100000 in
theorem writeSet_on (F : Interp) (B P b R : Nat) (p v : Value) (zs : List (Int × Int)) (r c pos : Int) (l : List UInt8) (w : World) (hF : F.answers w.tape) (h : Par P (.pointer (some ⟨b, 0, none⟩)) r c w) (hb : Bld B b p v l w)
    (hlen : l.length ≤ 1000000000) (hBw : B ≤ w.heap.size) (r0 : 0 ≤ r) (r1 : r ≤ 100000000) (c0 : 0 ≤ c) (c1 : c ≤ 100000000) (hm : zs.length ≤ 1000000) (hfit : Fit zs) (hR : RunesAt R zs w) (ht : w.cell? ⟨2, 15, none⟩ = some (.int .u8 4)) (hRP : R ≠ P) (h2P : 2 ≠ P) :
    Calls Tryf.prog 18 #[.pointer (some ⟨P, 0, none⟩), .int .i64 pos, .slice (some ⟨R, 0, none⟩) zs.length zs.length] w (OnPost B P b v zs r c l w) := by
  have Q := fun w r hF h hb hBw hR ht => writeMatch_on F B P b R p v zs r c pos l w hF h hb hlen hBw c0 c1 hm hfit hR ht hRP h2P
  have hne := h.ne hb
  unfold OnPost
  generalize syn zs = t at Q ⊢
  obtain ⟨n, hN⟩ : ∃ n, n = zs.length := ⟨_, rfl⟩
  rw [← hN] at hm Q ⊢
  have hd : (n : Int) ≤ 1000000 := by omega
  clear hN
  go_enter Tryf.func18, Tryf.ntmps18
  go_wp2_with fail
  refine (count_any F P R n _ r c pos w hF h r0 (by omega)).mono ?_
  rintro e w1 ⟨he, h1, k1⟩
  have hb1 := hb.kept k1 (fun e => hne (.inl e.symm)) (fun k hk e => hne (.inr (by rw [← e]; exact hk)))
  rcases he with ⟨hc, rfl⟩ | ⟨hc, q, rfl⟩
  · go_wp2_with fail
    refine (Q w1 _ (by rw [k1.tape]; exact hF) h1 hb1 (by have := k1.size; omega) (hR.kept k1 hRP) (k1.cell ht h2P)).mono ?_
    rintro e w2 ⟨h2, k2, he⟩
    have k12 : Keeps (Both P b v) w w2 := (k1.mono (fun _ _ h => .inl h)).trans k2
    rcases he with ⟨hcc, rfl, p', v', hb2⟩ | ⟨hcc, ⟨q, rfl⟩, hb2⟩
    · go_wp2
      go_ret
      exact ⟨p', v', _, _, h2, hb2, k12, .inr (.inr ⟨hc, hcc, rfl, rfl, rfl⟩)⟩
    · go_wp2
      go_ret
      exact ⟨p, v, _, _, h2, hb2, k12, .inr (.inl ⟨hc, hcc, ⟨q, rfl⟩, rfl, rfl⟩)⟩
  · go_wp2
    go_ret
    exact ⟨p, v, _, _, h1, hb1, k1.mono (fun _ _ h => .inl h), .inl ⟨hc, ⟨q, rfl⟩, rfl, rfl⟩⟩

set_option maxHeartbeats 800000 in
theorem zzWriteSet (P R n : Nat) (pos : Int) (w : World) (Q : Ending → World → Prop) (h : Calls Tryf.prog 18 #[.pointer (some ⟨P, 0, none⟩), .int .i64 pos, .slice (some ⟨R, 0, none⟩) n n] w fun e w' => (e = .returned .nilIface ∨ ∃ q, e = .returned (.iface 78 q)) ∧ Q e w') :
    Calls Tryf.prog 8 #[.pointer (some ⟨P, 0, none⟩), .int .i64 pos, .slice (some ⟨R, 0, none⟩) n n] w fun e w' => Q e w' ∧ True := by
  go_enter Tryf.func8, Tryf.ntmps8
  go_wp2_with fail
  refine h.mono ?_
  rintro e w1 ⟨rfl | ⟨x, rfl⟩, hq⟩
  · go_wp2
    go_ret
    exact ⟨hq, trivial⟩
  · go_wp2
    go_ret
    exact ⟨hq, trivial⟩

theorem zzWriteSet_off (F : Interp) (P R n : Nat) (r c pos : Int) (w : World) (hF : F.answers w.tape) (h : Par P (.pointer none) r c w) (r0 : 0 ≤ r) (hm : r + n ≤ 1000000000) :
    Calls Tryf.prog 8 #[.pointer (some ⟨P, 0, none⟩), .int .i64 pos, .slice (some ⟨R, 0, none⟩) n n] w (OffPost P n r c w) :=
  (zzWriteSet P R n pos w _ ((writeSet_off F P R n r c pos w hF h r0 hm).mono fun e w' h => ⟨by
    obtain ⟨_, _, ⟨_, rfl⟩ | ⟨_, _, rfl⟩⟩ := h
    · exact .inl rfl
    · exact .inr ⟨_, rfl⟩, h⟩)).mono fun _ _ h => h.1

theorem zzWriteSet_on (F : Interp) (B P b R : Nat) (p v : Value) (zs : List (Int × Int)) (r c pos : Int) (l : List UInt8) (w : World) (hF : F.answers w.tape) (h : Par P (.pointer (some ⟨b, 0, none⟩)) r c w) (hb : Bld B b p v l w)
    (hlen : l.length ≤ 1000000000) (hBw : B ≤ w.heap.size) (r0 : 0 ≤ r) (r1 : r ≤ 100000000) (c0 : 0 ≤ c) (c1 : c ≤ 100000000) (hm : zs.length ≤ 1000000) (hfit : Fit zs) (hR : RunesAt R zs w) (ht : w.cell? ⟨2, 15, none⟩ = some (.int .u8 4)) (hRP : R ≠ P) (h2P : 2 ≠ P) :
    Calls Tryf.prog 8 #[.pointer (some ⟨P, 0, none⟩), .int .i64 pos, .slice (some ⟨R, 0, none⟩) zs.length zs.length] w (OnPost B P b v zs r c l w) :=
  (zzWriteSet P R _ pos w _ ((writeSet_on F B P b R p v zs r c pos l w hF h hb hlen hBw r0 r1 c0 c1 hm hfit hR ht hRP h2P).mono fun e w' h => ⟨by
    obtain ⟨_, _, _, _, _, _, _, ⟨_, ⟨_, rfl⟩, _⟩ | ⟨_, _, ⟨_, rfl⟩, _⟩ | ⟨_, _, rfl, _⟩⟩ := h
    · exact .inr ⟨_, rfl⟩
    · exact .inr ⟨_, rfl⟩
    · exact .inl rfl, h⟩)).mono fun _ _ h => h.1

end Go.Proofs.Qxb6613280aFmt
