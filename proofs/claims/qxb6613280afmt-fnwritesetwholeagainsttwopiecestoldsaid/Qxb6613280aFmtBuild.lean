/-
  (*strings.Builder).copyCheck, WriteByte, WriteString, String, by contracts with an exact frame (after the shelf's proofs for these functions, at this dump's numbers).
-/
import Derived.Test.Qxb6613280aFmtRows
import Derived.WalkKit
import Derived.ProofKit
import Derived.OpenShut
import Derived.WalkSpells
import Derived.RegionTactic
import Derived.Maps.AppendAt
import Derived.Lib.Builder
import Derived.Lib.AppendStr
import Derived.Lib.UnsafeStr
import Derived.Laws.Externs
namespace Go.Proofs.Qxb6613280aFmt
open Go.ChangeShapes Go.WideShapes Go.ChangeAt Go.RowKit

/-- Every old block but those of S stands as it stood. -/
structure Keeps (S : Nat → Prop) (w w' : World) : Prop where
  os : w'.os = w.os
  tape : w'.tape = w.tape
  output : w'.output = w.output
  size : w.heap.size ≤ w'.heap.size
  block : ∀ k, k < w.heap.size → ¬ S k → w'.heap[k]? = w.heap[k]?

theorem Keeps.refl (S : Nat → Prop) (w : World) : Keeps S w w := ⟨rfl, rfl, rfl, Nat.le_refl _, fun _ _ _ => rfl⟩
theorem Keeps.trans {S : Nat → Prop} {a b c : World} (h : Keeps S a b) (k : Keeps S b c) : Keeps S a c :=
  ⟨k.os.trans h.os, k.tape.trans h.tape, k.output.trans h.output, Nat.le_trans h.size k.size, fun j hj hS => (k.block j (Nat.lt_of_lt_of_le hj h.size) hS).trans (h.block j hj hS)⟩
theorem Keeps.mono {S T : Nat → Prop} {w w' : World} (h : Keeps S w w') (hS : ∀ k, k < w.heap.size → S k → T k) : Keeps T w w' :=
  ⟨h.os, h.tape, h.output, h.size, fun k hk hT => h.block k hk (fun hs => hT (hS k hk hs))⟩
theorem Keeps.of_below {S : Nat → Prop} {w w' : World} (h : Below w.heap.size w w') : Keeps S w w' := ⟨h.os, h.tape, h.output, h.size, fun k hk _ => h.block k hk⟩
theorem Keeps.below {S : Nat → Prop} {w w' : World} {B : Nat} (h : Keeps S w w') (hB : B ≤ w.heap.size) (hS : ∀ k, S k → B ≤ k) : Below B w w' :=
  ⟨h.os, h.tape, h.output, h.size, fun k hk => h.block k (by omega) (fun hs => by have := hS k hs; omega)⟩
theorem Keeps.alloc {S : Nat → Prop} {a w : World} (h : Keeps S a w) (o : Obj) : Keeps S a (w.alloc o) :=
  h.trans (Keeps.of_below ((Below.refl _ _).alloc (Nat.le_refl _) o))
theorem Keeps.setCell {S : Nat → Prop} {a w : World} (h : Keeps S a w) (p : Addr) (hp : S p.block) (u : Value) : Keeps S a (w.setCell p u) :=
  h.trans ⟨rfl, rfl, rfl, by simp [World.setCell], fun k _ hk => Below.heap_setCell _ _ _ _ (fun e => hk (by rw [e]; exact hp))⟩
theorem Keeps.grown {S : Nat → Prop} {a w w' : World} {row : Option Nat} (h : Keeps S a w) (hg : w.grownBy w' row) (hr : ∀ k, row = some k → S k) : Keeps S a w' :=
  h.trans ⟨hg.os, hg.tape, hg.output, hg.size, fun k hk hS => hg.block k hk (fun e => hS (hr k e.symm))⟩
theorem Keeps.drew {S : Nat → Prop} {a w : World} (h : Keeps S a w) : Keeps S a w.drew := ⟨h.os, h.tape, h.output, h.size, h.block⟩
theorem Keeps.freeze {S : Nat → Prop} {a w : World} (h : Keeps S a w) (p : Addr) (hp : S p.block) (n : Nat) : Keeps S a (w.freeze p n) := by
  unfold World.freeze
  split
  · exact h
  · refine h.trans ⟨rfl, rfl, rfl, by simp, fun k _ hk => ?_⟩
    have : k ≠ p.block := fun e => hk (by rw [e]; exact hp)
    simp [Array.getElem?_modify, this.symm]
theorem Keeps.lt {w : World} {k : Nat} {o : Obj} (h : w.heap[k]? = some o) : k < w.heap.size := by
  rcases Nat.lt_or_ge k w.heap.size with h' | h'
  · exact h'
  · simp [Array.getElem?_eq_none h'] at h
theorem Keeps.at {S : Nat → Prop} {w w' : World} (h : Keeps S w w') {k : Nat} {o : Obj} (hk : w.heap[k]? = some o) (hS : ¬ S k) : w'.heap[k]? = some o :=
  (h.block k (Keeps.lt hk) hS).trans hk

/-- A strings.Builder in block b: 'addr' holds p, its buffer v (in a block from B on) the bytes l. -/
structure Bld (B b : Nat) (p v : Value) (l : List UInt8) (w : World) : Prop where
  heap : w.heap[b]? = some (.cells #[p, v] 53 (0, 0))
  addr : p = .pointer none ∨ p = .pointer (some ⟨b, 0, none⟩)
  owns : w.ownsRow B 5 1 v l.length (Lib.byteCells l)
  ne : v.ownBlock ≠ some b
  nil : l = [] → v = .slice none 0 0

theorem Bld.kept {S : Nat → Prop} {B b : Nat} {p v : Value} {l : List UInt8} {w w' : World} (h : Bld B b p v l w) (hk : Keeps S w w') (h1 : ¬ S b) (h2 : ∀ k, v.ownBlock = some k → ¬ S k) : Bld B b p v l w' := by
  refine ⟨hk.at h.heap h1, h.addr, ?_, h.ne, h.nil⟩
  refine ⟨h.owns.1, ?_⟩
  rcases h.owns.2 with ⟨hv, hn⟩ | ⟨g, cap, cur, hv, hB, hg, r⟩
  · exact .inl ⟨hv, hn⟩
  · exact .inr ⟨g, cap, cur, hv, hB, hk.at hg (h2 g (by rw [hv]; rfl)), r⟩

theorem Bld.base {B b : Nat} {p v : Value} {l : List UInt8} {w : World} (h : Bld B b p v l w) (k : Nat) (hk : v.ownBlock = some k) : B ≤ k ∧ k < w.heap.size := h.owns.lt k hk

theorem info53 : (Tryf.prog.info? 53).map (·.size) = some 2 := by kernel_rfl
theorem lies53 : liesAt Tryf.prog Tryf.prog.depth 53 (2 / Tryf.prog.cellsOf 53) 0 53 1 = true := by kernel_rfl
theorem info5 : (Tryf.prog.info? 5).map (fun i => (i.zero, i.size, i.bytes)) = some (some (.int .u8 0), 1, 1) := by kernel_rfl
theorem cells5 : Tryf.prog.cellsOf 5 = 1 := by kernel_rfl

set_option maxHeartbeats 1000000 in
set_option maxRecDepth 100000 in
theorem copyCheck_used (b : Nat) (w : World) (h0 : w.cell? ⟨b, 0, none⟩ = some (.pointer (some ⟨b, 0, none⟩))) :
    Calls Tryf.prog 27 #[.pointer (some ⟨b, 0, none⟩)] w fun e w' => e = .returned (.tuple #[]) ∧ w' = w := by
  obtain ⟨j, hj, _⟩ := Option.map_eq_some_iff.1 info53
  go_enter Tryf.func27, Tryf.ntmps27
  go_wp2
  rw [Lib.run_neq_ptr_same w _ Tryf.underlying36 hj]
  go_wp2
  go_end0
  exact ⟨rfl, rfl⟩

set_option maxHeartbeats 1000000 in
set_option maxRecDepth 100000 in
theorem copyCheck_fresh (b : Nat) (w : World) (h0 : w.cell? ⟨b, 0, none⟩ = some (.pointer none)) (hsh : w.shape? b = some (53, 2)) (hfz : w.frozen? ⟨b, 0, none⟩ = false) :
    Calls Tryf.prog 27 #[.pointer (some ⟨b, 0, none⟩)] w fun e w' => e = .returned (.tuple #[]) ∧ w' = w.setCell ⟨b, 0, none⟩ (.pointer (some ⟨b, 0, none⟩)) := by
  obtain ⟨j, hj, hjs⟩ := Option.map_eq_some_iff.1 info53
  go_enter Tryf.func27, Tryf.ntmps27
  go_wp2
  rw [Lib.run_to_unsafe w ⟨b, 0, none⟩ Tryf.underlying36 Tryf.underlying65 hj (by rw [hjs]; decide) hsh (Nat.zero_lt_succ 1)]
  simp only [Result.andThen]
  rw [Oper.upon_value]
  go_wp2
  rw [run_callFunc_extern Tryf.func35 (by kernel_rfl) (by kernel_rfl) (by kernel_rfl) (e := Extern.AbiNoEscape.same) (by kernel_rfl)]
  rw [Lib.run_noEscape]
  simp only [Result.andThen]
  rw [Oper.upon_value]
  go_wp2
  rw [Lib.run_from_unsafe w ⟨b, 0, none⟩ Tryf.underlying65 Tryf.underlying36 hj hsh lies53]
  simp only [Result.andThen]
  rw [Oper.upon_value]
  go_wp2
  go_end0
  exact ⟨rfl, rfl⟩
theorem Bld.cell0 {B b : Nat} {p v : Value} {l : List UInt8} {w : World} (h : Bld B b p v l w) : w.cell? ⟨b, 0, none⟩ = some p := by rw [Lib.cell_of_heap h.heap]; rfl
theorem Bld.cell1 {B b : Nat} {p v : Value} {l : List UInt8} {w : World} (h : Bld B b p v l w) : w.cell? ⟨b, 1, none⟩ = some v := by rw [Lib.cell_of_heap h.heap]; rfl

theorem Bld.used {B b : Nat} {p v : Value} {l : List UInt8} {w : World} (h : Bld B b p v l w) (q : Value) (hq : q = .pointer none ∨ q = .pointer (some ⟨b, 0, none⟩)) : Bld B b q v l (w.setCell ⟨b, 0, none⟩ q) := by
  have hk : Keeps (fun k => k = b) w (w.setCell ⟨b, 0, none⟩ q) := (Keeps.refl (fun k => k = b) w).setCell ⟨b, 0, none⟩ rfl q
  refine ⟨?_, hq, ?_, h.ne, h.nil⟩
  · simp [World.setCell, Array.getElem?_modify, h.heap]
  · refine ⟨h.owns.1, ?_⟩
    rcases h.owns.2 with ⟨hv, hn⟩ | ⟨g, cap, cur, hv, hB, hg, r⟩
    · exact .inl ⟨hv, hn⟩
    · exact .inr ⟨g, cap, cur, hv, hB, hk.at hg (fun e => h.ne (by rw [hv, ← e]; rfl)), r⟩

theorem copyCheck_any (B b : Nat) (p v : Value) (l : List UInt8) (w : World) (h : Bld B b p v l w) :
    Calls Tryf.prog 27 #[.pointer (some ⟨b, 0, none⟩)] w fun e w' => e = .returned (.tuple #[]) ∧ (Bld B b (.pointer (some ⟨b, 0, none⟩)) v l w' ∧ Keeps (fun k => k = b) w w') := by
  rcases h.addr with rfl | rfl
  · refine (copyCheck_fresh b w h.cell0 (by simp [World.shape?, h.heap]) (Lib.frozen_of_heap h.heap 0)).mono ?_
    rintro e w' ⟨rfl, rfl⟩
    exact ⟨rfl, h.used _ (.inr rfl), (Keeps.refl (fun k => k = b) w).setCell ⟨b, 0, none⟩ rfl _⟩
  · refine (copyCheck_used b w h.cell0).mono ?_
    rintro e w' ⟨rfl, rfl⟩
    exact ⟨rfl, h, Keeps.refl _ _⟩

/-- A new buffer laid into 'buf'. -/
theorem Bld.put {B b : Nat} {p v v' : Value} {l' : List UInt8} {w : World} (hb : w.heap[b]? = some (.cells #[p, v] 53 (0, 0))) (ha : p = .pointer none ∨ p = .pointer (some ⟨b, 0, none⟩)) (hown : w.ownsRow B 5 1 v' l'.length (Lib.byteCells l')) (hn : l' = [] → v' = .slice none 0 0) :
    Bld B b p v' l' (w.setCell ⟨b, 1, none⟩ v') := by
  have hne := Lib.ownBlock_ne hown hb (by decide)
  have hk : Keeps (fun k => k = b) w (w.setCell ⟨b, 1, none⟩ v') := (Keeps.refl (fun k => k = b) w).setCell ⟨b, 1, none⟩ rfl v'
  refine ⟨?_, ha, ?_, hne, hn⟩
  · simp [World.setCell, Array.getElem?_modify, hb]
  · refine ⟨hown.1, ?_⟩
    rcases hown.2 with ⟨hv, hn⟩ | ⟨g, cap, cur, hv, hB, hg, r⟩
    · exact .inl ⟨hv, hn⟩
    · exact .inr ⟨g, cap, cur, hv, hB, hk.at hg (fun e => hne (by rw [hv, ← e]; rfl)), r⟩

/-- The blocks a builder writes to. -/
def Own (b : Nat) (v : Value) : Nat → Prop := fun k => k = b ∨ v.ownBlock = some k

set_option maxHeartbeats 2000000 in
set_option maxRecDepth 100000 in
theorem writeByte_any (B b : Nat) (p v : Value) (l : List UInt8) (c : UInt8) (w : World) (h : Bld B b p v l w) (hlen : l.length + 1 ≤ 140737488355328) (hBw : B ≤ w.heap.size) :
    Calls Tryf.prog 26 #[.pointer (some ⟨b, 0, none⟩), .int .u8 c.toNat] w fun e w' => e = .returned .nilIface ∧ ∃ v', Bld B b (.pointer (some ⟨b, 0, none⟩)) v' (l ++ [c]) w' ∧ Keeps (Own b v) w w' := by
  obtain ⟨i0, hi, hz0, hz1, hz2⟩ := info_parts info5
  have hbc : Lib.byteCells (l ++ [c]) = Lib.byteCells l ++ [.int .u8 c.toNat] := by simp [Lib.byteCells]
  generalize (c.toNat : Int) = ci at hbc ⊢
  go_enter Tryf.func26, Tryf.ntmps26
  go_wp2_with (go_at_call 27; refine (copyCheck_any B b p v l _ h).mono ?_)
  rintro e w1 ⟨rfl, h1, hk1⟩
  have c0 := h1.cell0
  have c1 := h1.cell1
  have hown := h1.owns
  have hbk := h1.heap
  have hne := h1.ne
  go_wp2_with (at_builtin; refine wpList_append_own _ rfl _ _ 51 rfl B 5 i0 (.int .u8 0) 1 1 Tryf.underlying51 hi hz0 hz1 hz2 rfl (by decide) _ _ _ rfl (hown.alloc _) ⟨w1.heap.size, 0, none⟩ 1 1 [.int .u8 ci] rfl rfl ?c1 ?c2 ?c3 ?c4 ?c5 ?_)
  case c1 =>
    intro j u hj
    match j, hj with
    | 0, hj => simp at hj; subst hj; simp [Addr.add]
  case c2 => intro u hu; simp at hu; subst hu; rfl
  case c3 => unfold maxLen; omega
  case c4 => omega
  case c5 => have := hk1.size; simp; omega
  intro v' w2 hown' hgrow _
  have hlt : b < w1.heap.size := Keeps.lt hbk
  have hb2 : w2.heap[b]? = some (.cells #[.pointer (some ⟨b, 0, none⟩), v] 53 (0, 0)) := by
    rw [hgrow.block b (by simp; omega) (fun e => hne e.symm), Lib.alloc_old w1 _ b hlt]
    exact hbk
  have d0 : w2.cell? ⟨b, 0, none⟩ = some (.pointer (some ⟨b, 0, none⟩)) := by rw [Lib.cell_of_heap hb2]; rfl
  have d1 : w2.cell? ⟨b, 1, none⟩ = some v := by rw [Lib.cell_of_heap hb2]; rfl
  have f1 : w2.frozen? ⟨b, 1, none⟩ = false := Lib.frozen_of_heap hb2 1
  obtain ⟨g, cap, rfl⟩ : ∃ g cap, v' = .slice (some ⟨g, 0, none⟩) (l.length + 1) cap := by
    rcases hown'.2 with ⟨_, h0⟩ | ⟨g, cap, cur, hv, _⟩
    · omega
    · exact ⟨g, cap, hv⟩
  go_wp2
  go_ret
  refine ⟨rfl, .slice (some ⟨g, 0, none⟩) (l.length + 1) cap, ?_, ?_⟩
  · exact Bld.put (l' := l ++ [c]) hb2 (.inr rfl) (by rw [hbc]; simpa using hown') (fun h => by simp at h)
  · have hk1' : Keeps (Own b v) w w1 := hk1.mono (fun k _ h => .inl h)
    exact (((hk1'.alloc _).grown hgrow (fun k hk => .inr hk)).setCell ⟨b, 1, none⟩ (.inl rfl) _)

set_option maxHeartbeats 2000000 in
set_option maxRecDepth 100000 in
theorem writeString_any (B b : Nat) (p v : Value) (l s : List UInt8) (w : World) (h : Bld B b p v l w) (hlen : l.length + s.length ≤ 140737488355328) (hBw : B ≤ w.heap.size) :
    Calls Tryf.prog 21 #[.pointer (some ⟨b, 0, none⟩), .string ⟨s.toArray⟩] w fun e w' => e = .returned (.tuple #[.int .i64 s.length, .nilIface]) ∧ ∃ v', Bld B b (.pointer (some ⟨b, 0, none⟩)) v' (l ++ s) w' ∧ Keeps (Own b v) w w' := by
  obtain ⟨i0, hi, hz0, hz1, hz2⟩ := info_parts info5
  have hsz : (⟨s.toArray⟩ : ByteArray).size = s.length := rfl
  have hsc : Lib.strCells ⟨s.toArray⟩ = Lib.byteCells s := rfl
  generalize hst : (⟨s.toArray⟩ : ByteArray) = st at hsz hsc ⊢
  go_enter Tryf.func21, Tryf.ntmps21
  go_wp2_with (go_at_call 27; refine (copyCheck_any B b p v l _ h).mono ?_)
  rintro e w1 ⟨rfl, h1, hk1⟩
  have c0 := h1.cell0
  have c1 := h1.cell1
  have hown := h1.owns
  have hbk := h1.heap
  have hne := h1.ne
  go_wp2_with (at_builtin; refine Lib.wpList_append_own_string _ rfl _ _ 51 9 rfl B 5 i0 Tryf.underlying51 Tryf.underlying9 hi hz0 hz1 hz2 _ _ _ rfl hown st rfl ?c3 ?c4 ?c5 ?_)
  case c3 => unfold maxLen; omega
  case c4 => omega
  case c5 => have := hk1.size; omega
  intro v' w2 hown' hgrow hiff
  have HNIL : Hid (l ++ s = [] → v' = .slice none 0 0) := by
    show l ++ s = [] → v' = .slice none 0 0
    intro h0
    have hl : l = [] := (List.append_eq_nil_iff.1 h0).1
    have hs : s = [] := (List.append_eq_nil_iff.1 h0).2
    exact hiff.2 ⟨h1.nil hl, by simp [hs]⟩
  clear hiff
  have hlt : b < w1.heap.size := Keeps.lt hbk
  have hb2 : w2.heap[b]? = some (.cells #[.pointer (some ⟨b, 0, none⟩), v] 53 (0, 0)) := by
    rw [hgrow.block b hlt (fun e => hne e.symm)]
    exact hbk
  have d0 : w2.cell? ⟨b, 0, none⟩ = some (.pointer (some ⟨b, 0, none⟩)) := by rw [Lib.cell_of_heap hb2]; rfl
  have d1 : w2.cell? ⟨b, 1, none⟩ = some v := by rw [Lib.cell_of_heap hb2]; rfl
  have f1 : w2.frozen? ⟨b, 1, none⟩ = false := Lib.frozen_of_heap hb2 1
  obtain ⟨ao, n', cap, rfl⟩ : ∃ ao n' cap, v' = .slice ao n' cap := by
    rcases hown'.2 with ⟨hv, _⟩ | ⟨g, cap, cur, hv, _⟩
    · exact ⟨_, _, _, hv⟩
    · exact ⟨_, _, _, hv⟩
  go_wp2
  go_ret2
  refine ⟨rfl, .slice ao n' cap, ?_, ?_⟩
  · exact Bld.put (l' := l ++ s) hb2 (.inr rfl) (by simpa [Lib.byteCells] using hown') HNIL.out
  · have hk1' : Keeps (Own b v) w w1 := hk1.mono (fun k _ h => .inl h)
    exact ((hk1'.grown hgrow (fun k hk => .inr hk)).setCell ⟨b, 1, none⟩ (.inl rfl) _)

set_option maxHeartbeats 2000000 in
set_option maxRecDepth 100000 in
theorem string_full (B b : Nat) (p v : Value) (l : List UInt8) (w : World) (h : Bld B b p v l w) (h0 : l ≠ []) :
    Calls Tryf.prog 20 #[.pointer (some ⟨b, 0, none⟩)] w fun e w' => e = .returned (.string ⟨l.toArray⟩) ∧ Keeps (fun k => v.ownBlock = some k) w w' := by
  have hl0 : l.length ≠ 0 := by simpa using h0
  have hown := h.owns
  have hbk := h.heap
  obtain ⟨g, cap, cur, rfl, hbg, hg, hnc, hcm, hcs, htake⟩ : ∃ g cap cur, v = .slice (some ⟨g, 0, none⟩) l.length cap ∧ B ≤ g ∧ w.heap[g]? = some (.cells cur 5 (0, 0)) ∧ l.length ≤ cap ∧ cap ≤ maxLen ∧ cur.size = cap * 1 ∧ cur.toList.take (l.length * 1) = Lib.byteCells l := by
    rcases hown.2 with ⟨_, hz⟩ | ⟨g, cap, cur, hv, r⟩
    · exact absurd hz hl0
    · exact ⟨g, cap, cur, hv, r⟩
  have c1 : w.drew.cell? ⟨b, 1, none⟩ = some (.slice (some ⟨g, 0, none⟩) l.length cap) := by
    have : w.drew.heap[b]? = some (.cells #[p, .slice (some ⟨g, 0, none⟩) l.length cap] 53 (0, 0)) := hbk
    rw [Lib.cell_of_heap this]; rfl
  have hSD : (Builtin.unsafeSliceData_ #[51] 58 #[.slice (some ⟨g, 0, none⟩) l.length cap]).run Tryf.prog w.drew = .ok (.pointer (some ⟨g, 0, none⟩)) w.drew :=
    Lib.run_unsafeSliceData_row _ _ _ _ _ _ (by omega)
  have hUS : (Builtin.unsafeString_ #[58, 3] 9 #[.pointer (some ⟨g, 0, none⟩), .int .i64 l.length]).run Tryf.prog w.drew = .ok (.string ⟨l.toArray⟩) (w.drew.freeze ⟨g, 0, none⟩ l.length) := by
    refine Lib.run_unsafeString_row w.drew 58 3 9 5 Tryf.underlying58 cells5 g cur.size (by have hg' : w.drew.heap[g]? = some (.cells cur 5 (0, 0)) := hg; simp [World.shape?, hg']) l h0 (by omega) (by unfold maxLen at hcm; omega) ?_
    intro j x hx
    have := hown.cells (g := g) rfl j (.int .u8 x.toNat) (by simp [Lib.byteCells, hx])
    exact this
  go_enter Tryf.func20, Tryf.ntmps20
  go_wp2
  go_region
  all_goals (go_wp2; go_ret; exact ⟨rfl, (Keeps.drew (Keeps.refl (fun k => (Value.slice (some ⟨g, 0, none⟩) l.length cap).ownBlock = some k) w)).freeze ⟨g, 0, none⟩ rfl _⟩)

set_option maxHeartbeats 2000000 in
set_option maxRecDepth 100000 in
theorem string_nil (b : Nat) (p : Value) (w : World) (hbk : w.heap[b]? = some (.cells #[p, .slice none 0 0] 53 (0, 0))) :
    Calls Tryf.prog 20 #[.pointer (some ⟨b, 0, none⟩)] w fun e w' => e = .returned (.string ⟨#[]⟩) ∧ Keeps (fun _ => False) w w' := by
  have hUS : ∀ (W : World) (q : Option Addr), (Builtin.unsafeString_ #[58, 3] 9 #[.pointer q, .int .i64 0]).run Tryf.prog W = .ok (.string .empty) W := fun W q => Lib.run_unsafeString_none W _ _ _ q
  have c1 : w.drew.cell? ⟨b, 1, none⟩ = some (.slice none 0 0) := by
    have : w.drew.heap[b]? = some (.cells #[p, .slice none 0 0] 53 (0, 0)) := hbk
    rw [Lib.cell_of_heap this]; rfl
  have hSD : (Builtin.unsafeSliceData_ #[51] 58 #[.slice none 0 0]).run Tryf.prog w.drew = .ok (.pointer none) w.drew := rfl
  go_enter Tryf.func20, Tryf.ntmps20
  go_wp2
  go_region
  all_goals (go_wp2; go_ret; exact ⟨rfl, Keeps.drew (Keeps.refl _ w)⟩)

theorem string_any (B b : Nat) (p v : Value) (l : List UInt8) (w : World) (h : Bld B b p v l w) :
    Calls Tryf.prog 20 #[.pointer (some ⟨b, 0, none⟩)] w fun e w' => e = .returned (.string ⟨l.toArray⟩) ∧ Keeps (fun k => v.ownBlock = some k) w w' := by
  by_cases h0 : l = []
  · have hv := h.nil h0
    subst h0; subst hv
    refine (string_nil b p w h.heap).mono ?_
    rintro e w' ⟨rfl, hk⟩
    exact ⟨rfl, hk.mono (fun _ _ h => h.elim)⟩
  · exact string_full B b p v l w h h0
end Go.Proofs.Qxb6613280aFmt
