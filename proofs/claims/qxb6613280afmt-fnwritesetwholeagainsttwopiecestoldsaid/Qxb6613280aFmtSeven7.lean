/-
  What the two laws share besides: zzBytes of the first, copies of int32 slices, copies of a text.
-/
import Derived.Test.Qxb6613280aFmtZz
import Derived.Laws.CopyRow
namespace Go.Proofs.Qxb6613280aFmt
open Go.ChangeShapes Go.WideShapes Go.ChangeAt Go.RowKit Go.Extern.Stop Go.Stop Go.Extern

theorem info21 : (Tryf.prog.info? 21).map (fun i => (i.zero, i.size, i.bytes)) = some (some (.int .i32 0), 1, 4) := by kernel_rfl
theorem size21 : (Tryf.prog.info? 21).map (·.size) = some 1 := by kernel_rfl

/-- make([]rune, n). -/
theorem make_ints (n : Nat) (hn : n ≤ 1000000) (w : World) :
    ∃ cs : Array Value, cs.size = n ∧ (Instr.makeSlice 22 (.int .i64 n) (.int .i64 n)).run Tryf.prog w = .ok (.slice (some ⟨w.heap.size, 0, none⟩) n n) (w.alloc (.cells cs 21)) := by
  obtain ⟨i0, hi, hz0, hz1, hz2⟩ := info_parts info21
  have h := run_make (P := Tryf.prog) w 22 21 i0 _ Tryf.underlying22 hi hz0 .i64 .i64 n n (by omega) (Int.le_refl _) (by rw [hz2]; omega) (by omega)
  simp only [Int.toNat_natCast] at h
  rw [hz1] at h
  exact ⟨_, by simp [madeCells], h⟩

theorem Ints.kept {S : Nat → Prop} {a : Option Addr} {xs : List Int} {w w' : World} (h : Ints a xs w) (k : Keeps S w w') (hS : ∀ A o, a = some ⟨A, o, none⟩ → ¬ S A) : Ints a xs w' :=
  ⟨fun j x hx => by
    obtain ⟨A, o, ha, hc⟩ := h.at_ j x hx
    exact ⟨A, o, ha, k.cell hc (hS A o ha)⟩⟩

theorem add_at (A o j : Nat) : (⟨A, o, none⟩ : Addr).add j = ⟨A, o + j, none⟩ := by unfold Addr.add; split <;> simp_all

/-- copy(dst, src), dst just made. -/
theorem copy_ints (ty : TypeId) (D n c : Nat) (a : Option Addr) (xs : List Int) (cur : Array Value) (w : World) (hg : w.heap[D]? = some (.cells cur 21 (0, 0))) (hcur : cur.size = n) (h : Ints a xs w) (hn : n = xs.length) :
    ∃ w', (Builtin.copy_ #[22, 22] ty #[.slice (some ⟨D, 0, none⟩) n n, .slice a n c]).run Tryf.prog w = .ok (.int .i64 n) w' ∧ Ints (some ⟨D, 0, none⟩) xs w' ∧ Keeps (fun k => k = D) w w' := by
  by_cases h0 : n = 0
  · subst h0
    have hx : xs = [] := List.eq_nil_of_length_eq_zero hn.symm
    subst hx
    exact ⟨w, run_copy_none (P := Tryf.prog) w 22 22 ty 21 _ _ _ _ _ _ Tryf.underlying22 size21 rfl, ⟨fun j x hx => by simp at hx⟩, Keeps.refl _ _⟩
  · obtain ⟨x0, hx0⟩ : ∃ x, xs[0]? = some x := ⟨_, List.getElem?_eq_getElem (by omega)⟩
    obtain ⟨A, o, rfl, _⟩ := h.at_ 0 x0 hx0
    have hsrc : ∀ j v, (xs.map fun x => Value.int .i32 x)[j]? = some v → w.cell? ((⟨A, o, none⟩ : Addr).add j) = some v := by
      intro j v hv
      rw [List.getElem?_map, Option.map_eq_some_iff] at hv
      obtain ⟨x, hx, rfl⟩ := hv
      obtain ⟨A', o', e, hc⟩ := h.at_ j x hx
      simp at e
      rw [add_at, e.1, e.2]; exact hc
    have hr := run_copy_row (P := Tryf.prog) w 22 22 ty 21 D 0 n n ⟨A, o, none⟩ n c cur 21 (xs.map fun x => Value.int .i32 x) Tryf.underlying22 size21 hg (by simp [hn]) hsrc (by simp; omega)
      (by intro v hv; simp at hv; obtain ⟨x, _, rfl⟩ := hv; rfl)
    have hrow : ∀ (cs : Array Value), (w.setRow D cs).heap[D]? = some (.cells cs 21 (0, 0)) := fun cs => setRow_heap w D cur cs 21 (0, 0) hg
    have hlen : (xs.map fun x => Value.int .i32 x).length = n := by simp [hn]
    rw [hlen] at hr
    refine ⟨_, hr, ⟨fun j x hx => ⟨D, 0, rfl, ?_⟩⟩, ⟨rfl, rfl, rfl, by simp [World.setRow], fun k _ hk => setRow_other w D k _ hk⟩⟩
    rw [Lib.cell_of_heap (hrow _)]
    have hj := (List.getElem?_eq_some_iff.1 hx).1
    simp only [List.take_zero, List.nil_append, Nat.zero_add, List.getElem?_toArray]
    rw [List.getElem?_append_left (by simpa using hj), List.getElem?_map, hx]
    rfl

set_option maxHeartbeats 400000 in
theorem zzBytes7 (tr : Bool) (pos : Int) (a1 a2 : Option Addr) (n1 n2 c1 c2 : Nat) (w : World) :
    Calls Tryf.prog 14 #[.bool tr, .int .i64 pos, .slice a1 n1 c1, .slice a2 n2 c2] w fun e w' => (e = .returned (.bool true) ∨ e = .returned (.bool false)) ∧ w' = w := by
  by_cases t1 : 1048576 < n1
  · have t1' : (1048576 : Int) < n1 := by omega
    go_enter Tryf.func14, Tryf.ntmps14
    go_wp2
    go_ret
    first | exact ⟨.inl rfl, rfl⟩ | exact ⟨.inr rfl, rfl⟩
  by_cases t2 : 1048576 < n2
  · have t1' : ¬ (1048576 : Int) < n1 := by omega
    have t2' : (1048576 : Int) < n2 := by omega
    go_enter Tryf.func14, Tryf.ntmps14
    go_wp2
    go_ret
    first | exact ⟨.inl rfl, rfl⟩ | exact ⟨.inr rfl, rfl⟩
  by_cases t3 : 1048576 < n1 + n2
  · have t1' : ¬ (1048576 : Int) < n1 := by omega
    have t2' : ¬ (1048576 : Int) < n2 := by omega
    have t3' : (1048576 : Int) < n1 + n2 := by omega
    go_enter Tryf.func14, Tryf.ntmps14
    go_wp2
    go_ret
    first | exact ⟨.inl rfl, rfl⟩ | exact ⟨.inr rfl, rfl⟩
  · have t1' : ¬ (1048576 : Int) < n1 := by omega
    have t2' : ¬ (1048576 : Int) < n2 := by omega
    have t3' : ¬ (1048576 : Int) < n1 + n2 := by omega
    go_enter Tryf.func14, Tryf.ntmps14
    go_wp2
    go_ret
    first | exact ⟨.inl rfl, rfl⟩ | exact ⟨.inr rfl, rfl⟩

/-- k copies of t. -/
def rep (t : List UInt8) : Nat → List UInt8
  | 0 => []
  | k + 1 => rep t k ++ t
theorem rep_len (t : List UInt8) (k : Nat) : (rep t k).length = k * t.length := by
  induction k with
  | zero => simp [rep]
  | succ k ih => simp [rep, ih, Nat.succ_mul]
theorem rep_add (t : List UInt8) (j m : Nat) : rep t (j + m) = rep t j ++ rep t m := by
  induction m with
  | zero => simp [rep]
  | succ m ih => rw [← Nat.add_assoc, rep, ih, rep, List.append_assoc]
theorem rep_part (t : List UInt8) (k j : Nat) (h : j < k) : ((rep t k).drop (j * t.length)).take t.length = t := by
  obtain ⟨m, rfl⟩ : ∃ m, k = j + (1 + m) := ⟨k - j - 1, by omega⟩
  rw [rep_add, List.drop_left' (rep_len t j), rep_add, List.take_left' (by rw [rep_len]; simp)]
  simp [rep]

end Go.Proofs.Qxb6613280aFmt
