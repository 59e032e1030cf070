/-
  writeSet by a parser that translates, once more: with the block of the builder's buffer told: the old one or a new one (two builders stand side by side in the second law).
-/
import Derived.Test.Qxb6613280aFmtSet
namespace Go.Proofs.Qxb6613280aFmt
open Go.ChangeShapes Go.WideShapes Go.ChangeAt Go.RowKit Go.Extern.Stop Go.Stop Go.Extern

/-- Where 'append' lays what it makes: into the old row, or into a new one. -/
theorem append_block (ty : TypeId) (B : Nat) (i0 : TypeInfo) (hi : Tryf.prog.info? 5 = some i0) (hz0 : i0.zero = some (.int .u8 0)) (hz1 : i0.size = 1) (hz2 : i0.bytes = 1) (v v' : Value) (n : Nat) (xs : List Value) (s : ByteArray) (w w' : World)
    (hown : w.ownsRow B 5 1 v n xs) (hB : B ≤ w.heap.size) (h63 : n + s.size ≤ maxLen) (hb : n + s.size ≤ 140737488355328)
    (hr : (Builtin.append_ #[51, 9] ty #[v, .string s]).run Tryf.prog w = .ok v' w') : ∀ k, v'.ownBlock = some k → v.ownBlock = some k ∨ w.heap.size ≤ k := by
  intro k hk
  have hsmall : n + s.size ≤ 9223372036854775807 := by simp only [maxLen] at h63; omega
  have hxl : xs.length = n := by simpa using hown.1
  rcases hown.2 with ⟨rfl, rfl⟩ | ⟨g, cap, cur, rfl, hbg, hg, hnc, hcm, hcs, htake⟩
  · by_cases hm : s.size = 0
    · obtain ⟨v2, w2, hr2, _, _, h4⟩ := Lib.run_append_own_string (P := Tryf.prog) w B 51 9 ty 5 i0 Tryf.underlying51 Tryf.underlying9 hi hz0 hz1 hz2 _ _ xs hown s h63 hb hB
      rw [hr] at hr2
      obtain ⟨rfl, _⟩ : v' = v2 ∧ w' = w2 := by simpa using hr2
      rw [h4.2 ⟨rfl, hm⟩] at hk
      simp [Value.ownBlock] at hk
    · have h := run_append_nil_string (P := Tryf.prog) w 51 9 ty 5 i0 (.int .u8 0) Tryf.underlying51 Tryf.underlying9 hi hz0 s (by omega) (by omega) (by rw [hz2]; omega)
      rw [hr] at h
      simp only [Result.ok.injEq] at h
      rw [h.1] at hk
      simp [Value.ownBlock] at hk
      omega
  · by_cases hroom : n + s.size ≤ cap
    · have hcs' : cur.size = cap := by simpa using hcs
      have h := Lib.run_append_room_string (P := Tryf.prog) w 51 9 ty 5 i0 Tryf.underlying51 Tryf.underlying9 hi hz1 g n cap cur hg s hroom (by omega)
      rw [hr] at h
      simp only [Result.ok.injEq] at h
      rw [h.1] at hk
      exact .inl hk
    · have holds : ∀ j u, xs[j]? = some u → w.cell? ((⟨g, 0, none⟩ : Addr).add j) = some u := hown.cells (g := g) rfl
      have h := Lib.run_append_grow_string (P := Tryf.prog) w 51 9 ty 5 i0 (.int .u8 0) Tryf.underlying51 Tryf.underlying9 hi hz0 ⟨g, 0, none⟩ n cap xs (by rw [hz1]; simpa using hxl) holds s (by omega) (by omega) (by rw [hz2]; exact growslice_fits (by omega) (by omega))
      rw [hr] at h
      simp only [Result.ok.injEq] at h
      rw [h.1] at hk
      simp [Value.ownBlock] at hk
      omega

/-- 'append(buf, s...)' at the operation, with that. -/
theorem wpList_append_str8 (w : World) {ops : Array Oper} {rest : List Oper} {o : Oper} {a : Act} {Q : Exit → Act → World → Prop} (hgd : o.guard = none) (sl x : Operand)
    (ho : o.op = .call { callee := .builtin .append, args := #[sl, x], argTypes := #[51, 9] })
    (base : Nat) (i : TypeInfo) (hi : Tryf.prog.info? 5 = some i) (hz : i.zero = some (.int .u8 0)) (hsize : i.size = 1) (hby : i.bytes = 1)
    (v : Value) (n : Nat) (xs : List Value) (hs : a.eval sl = v) (hown : w.ownsRow base 5 1 v n xs) (s : ByteArray) (hx : a.eval x = .string s)
    (h63 : n + s.size ≤ maxLen) (hbytes : n + s.size ≤ 140737488355328) (hbase : base ≤ w.heap.size)
    (h : ∀ v' w', w'.ownsRow base 5 1 v' (n + s.size) (xs ++ Lib.strCells s) → w.grownBy w' v.ownBlock → (v' = .slice none 0 0 ↔ v = .slice none 0 0 ∧ s.size = 0) → (∀ k, v'.ownBlock = some k → v.ownBlock = some k ∨ w.heap.size ≤ k) → wpList Tryf.prog ops Q rest (a.put o.dst v') w') : wpList Tryf.prog ops Q (o :: rest) a w := by
  refine wpList_plain hgd fun K hK => ?_
  obtain ⟨v', w', hr, h2, h3, h4⟩ := Lib.run_append_own_string (P := Tryf.prog) w base 51 9 o.type 5 i Tryf.underlying51 Tryf.underlying9 hi hz hsize hby v n xs hown s h63 hbytes hbase
  have h5 := append_block o.type base i hi hz hsize hby v v' n xs s w w' hown hbase h63 hbytes hr
  unfold Oper.wp execOp
  simp only [ho, resolve, invoke, builtin, Sem.run_bind, Sem.run_pure, Result.andThen_ok, List.map_toArray, List.map_cons, List.map_nil, hs, hx, hr]
  exact hK _ _ (h v' w' h2 h3 h4 h5)

set_option maxHeartbeats 2000000 in
set_option maxRecDepth 100000 in
theorem writeString8 (B b : Nat) (p v : Value) (l s : List UInt8) (w : World) (h : Bld B b p v l w) (hlen : l.length + s.length ≤ 140737488355328) (hBw : B ≤ w.heap.size) :
    Calls Tryf.prog 21 #[.pointer (some ⟨b, 0, none⟩), .string ⟨s.toArray⟩] w fun e w' => e = .returned (.tuple #[.int .i64 s.length, .nilIface]) ∧ ∃ v', Bld B b (.pointer (some ⟨b, 0, none⟩)) v' (l ++ s) w' ∧ Keeps (Own b v) w w' ∧ (∀ k, v'.ownBlock = some k → v.ownBlock = some k ∨ w.heap.size ≤ k) := by
  obtain ⟨i0, hi, hz0, hz1, hz2⟩ := info_parts info5
  have hsz : (⟨s.toArray⟩ : ByteArray).size = s.length := rfl
  have hsc : Lib.strCells ⟨s.toArray⟩ = Lib.byteCells s := rfl
  generalize hst : (⟨s.toArray⟩ : ByteArray) = st at hsz hsc ⊢
  go_enter Tryf.func21, Tryf.ntmps21
  go_wp2_with (go_at_call 27; refine (copyCheck_any B b p v l _ h).mono ?_)
  rintro e w1 ⟨rfl, h1, hk1⟩
  have c0 := h1.cell0
  have c1 := h1.cell1
  have hown := h1.owns
  have hbk := h1.heap
  have hne := h1.ne
  go_wp2_with (at_builtin; refine wpList_append_str8 _ rfl _ _ rfl B i0 hi hz0 hz1 hz2 _ _ _ rfl hown st rfl ?c3 ?c4 ?c5 ?_)
  case c3 => unfold maxLen; omega
  case c4 => omega
  case c5 => have := hk1.size; omega
  intro v' w2 hown' hgrow hiff hblk
  have HBLK : Hid (∀ k, v'.ownBlock = some k → v.ownBlock = some k ∨ w.heap.size ≤ k) := fun k hk => by
    rcases hblk k hk with h | h
    · exact .inl h
    · exact .inr (Nat.le_trans hk1.size h)
  clear hblk
  have HNIL : Hid (l ++ s = [] → v' = .slice none 0 0) := by
    show l ++ s = [] → v' = .slice none 0 0
    intro h0
    have hl : l = [] := (List.append_eq_nil_iff.1 h0).1
    have hs : s = [] := (List.append_eq_nil_iff.1 h0).2
    exact hiff.2 ⟨h1.nil hl, by simp [hs]⟩
  clear hiff
  have hlt : b < w1.heap.size := Keeps.lt hbk
  have hb2 : w2.heap[b]? = some (.cells #[.pointer (some ⟨b, 0, none⟩), v] 53 (0, 0)) := by
    rw [hgrow.block b hlt (fun e => hne e.symm)]
    exact hbk
  have d0 : w2.cell? ⟨b, 0, none⟩ = some (.pointer (some ⟨b, 0, none⟩)) := by rw [Lib.cell_of_heap hb2]; rfl
  have d1 : w2.cell? ⟨b, 1, none⟩ = some v := by rw [Lib.cell_of_heap hb2]; rfl
  have f1 : w2.frozen? ⟨b, 1, none⟩ = false := Lib.frozen_of_heap hb2 1
  obtain ⟨ao, n', cap, rfl⟩ : ∃ ao n' cap, v' = .slice ao n' cap := by
    rcases hown'.2 with ⟨hv, _⟩ | ⟨g, cap, cur, hv, _⟩
    · exact ⟨_, _, _, hv⟩
    · exact ⟨_, _, _, hv⟩
  go_wp2
  go_ret2
  refine ⟨rfl, .slice ao n' cap, ?_, ?_, HBLK.out⟩
  · exact Bld.put (l' := l ++ s) hb2 (.inr rfl) (by simpa [Lib.byteCells] using hown') HNIL.out
  · have hk1' : Keeps (Own b v) w w1 := hk1.mono (fun k _ h => .inl h)
    exact ((hk1'.grown hgrow (fun k hk => .inr hk)).setCell ⟨b, 1, none⟩ (.inl rfl) _)


set_option maxHeartbeats 800000 in
theorem write_on8 (B P b : Nat) (p v : Value) (r c : Int) (l s : List UInt8) (w : World) (h : Par P (.pointer (some ⟨b, 0, none⟩)) r c w) (hb : Bld B b p v l w) (hlen : l.length + s.length ≤ 140737488355328) (hBw : B ≤ w.heap.size) :
    Calls Tryf.prog 31 #[.pointer (some ⟨P, 0, none⟩), .string ⟨s.toArray⟩] w fun e w' => e = .returned (.tuple #[]) ∧ ∃ v', Bld B b (.pointer (some ⟨b, 0, none⟩)) v' (l ++ s) w' ∧ Keeps (Own b v) w w' ∧ (∀ k, v'.ownBlock = some k → v.ownBlock = some k ∨ w.heap.size ≤ k) := by
  have c2 := h.cell2
  have Q := writeString8 B b p v l s w hb hlen hBw
  generalize (⟨s.toArray⟩ : ByteArray) = st at Q ⊢
  go_enter Tryf.func31, Tryf.ntmps31
  go_wp2_with fail
  refine (translating_any P _ r c true w h (.inl ⟨rfl, _, rfl⟩)).mono ?_
  rintro e w' ⟨rfl, rfl⟩
  go_wp2_with fail
  refine Q.mono ?_
  rintro e w1 ⟨rfl, v1, hb1, hk1, hblk⟩
  go_wp2
  go_end0
  exact ⟨rfl, v1, hb1, hk1, hblk⟩

set_option maxHeartbeats 800000 in
set_option maxRecDepth 100000 in
theorem writeMatch_on8 (F : Interp) (B P b R : Nat) (p v : Value) (zs : List (Int × Int)) (r c pos : Int) (l : List UInt8) (w : World) (hF : F.answers w.tape) (h : Par P (.pointer (some ⟨b, 0, none⟩)) r c w) (hb : Bld B b p v l w)
    (hlen : l.length ≤ 1000000000) (hBw : B ≤ w.heap.size) (c0 : 0 ≤ c) (c1 : c ≤ 100000000) (hm : zs.length ≤ 1000000) (hfit : Fit zs) (hR : RunesAt R zs w) (ht : w.cell? ⟨2, 15, none⟩ = some (.int .u8 4)) (hRP : R ≠ P) (h2P : 2 ≠ P) :
    Calls Tryf.prog 24 #[.pointer (some ⟨P, 0, none⟩), .int .i64 pos, .slice (some ⟨R, 0, none⟩) zs.length zs.length] w fun e w' =>
      Par P (.pointer (some ⟨b, 0, none⟩)) r (c + (400 + zs.length * 32)) w' ∧ Keeps (Both P b v) w w' ∧
        ((c + (400 + zs.length * 32) ≤ 8388608 ∧ e = .returned .nilIface ∧ ∃ p' v', Bld B b p' v' (l ++ syn zs) w' ∧ (∀ k, v'.ownBlock = some k → v.ownBlock = some k ∨ w.heap.size ≤ k)) ∨ (8388608 < c + (400 + zs.length * 32) ∧ (∃ q, e = .returned (.iface 78 q)) ∧ Bld B b p v l w')) := by
  have hsl := syn_len zs
  have Q := fun w ht hR => syntax_any R zs w ht hfit hR hm
  have hne := h.ne hb
  generalize syn zs = t at hsl Q ⊢
  obtain ⟨n, hN⟩ : ∃ n, n = zs.length := ⟨_, rfl⟩
  rw [← hN] at hm hsl Q ⊢
  have hd : (n : Int) ≤ 1000000 := by omega
  clear hN
  go_enter Tryf.func24, Tryf.ntmps24
  go_wp2_with fail
  refine (translating_any P _ r c true w h (.inl ⟨rfl, _, rfl⟩)).mono ?_
  rintro e w0 ⟨rfl, rfl⟩
  go_wp2_with fail
  refine (addCost_any F P ⟨b, 0, none⟩ r c pos (400 + n * 32) w0 hF h c0 (by omega) (by omega)).mono ?_
  rintro e w1 ⟨he, h1, k1⟩
  have hb1 := hb.kept k1 (fun e => hne (.inl e.symm)) (fun k hk e => hne (.inr (by rw [← e]; exact hk)))
  rcases he with ⟨hc, rfl⟩ | ⟨hc, q, rfl⟩
  · have ht1 := k1.cell ht h2P
    have hR1 := hR.kept k1 hRP
    go_wp2_with fail
    refine (Q w1 ht1 hR1).mono ?_
    rintro e w2 ⟨rfl, hb2⟩
    have k2 : Keeps (fun _ => False) w1 w2 := Keeps.of_below hb2
    go_wp2_with fail
    refine (write_on8 B P b p v r _ l t w2 (h1.kept k2 (fun h => h)) (hb1.kept k2 (fun h => h) (fun _ _ h => h)) (by omega) (by have := k1.size; have := k2.size; omega)).mono ?_
    rintro e w3 ⟨rfl, v3, hb3, k3, hblk⟩
    have HBLK : Hid (∀ k, v3.ownBlock = some k → v.ownBlock = some k ∨ w0.heap.size ≤ k) := fun k hk => by
      rcases hblk k hk with h | h
      · exact .inl h
      · exact .inr (Nat.le_trans (Nat.le_trans k1.size k2.size) h)
    clear hblk
    go_wp2
    go_ret
    refine ⟨(h1.kept k2 (fun h => h)).kept k3 hne, ?_, .inl ⟨hc, rfl, _, v3, hb3, HBLK.out⟩⟩
    exact ((k1.mono (fun _ _ h => .inl h)).trans (k2.mono (fun _ _ h => h.elim))).trans (k3.mono (fun _ _ h => .inr h))
  · go_wp2
    go_ret
    exact ⟨h1, k1.mono (fun _ _ h => .inl h), .inr ⟨hc, ⟨q, rfl⟩, hb1⟩⟩

/-- .. and to one that translates. -/
def OnPost8 (B P b : Nat) (v : Value) (zs : List (Int × Int)) (r c : Int) (l : List UInt8) (w : World) (e : Ending) (w' : World) : Prop :=
  ∃ (p' v' : Value) (l' : List UInt8) (c' : Int), Par P (.pointer (some ⟨b, 0, none⟩)) (r + zs.length) c' w' ∧ Bld B b p' v' l' w' ∧ Keeps (Both P b v) w w' ∧ (∀ k, v'.ownBlock = some k → v.ownBlock = some k ∨ w.heap.size ≤ k) ∧
    ((100000 < r + zs.length ∧ (∃ q, e = .returned (.iface 78 q)) ∧ c' = c ∧ l' = l) ∨
     (r + zs.length ≤ 100000 ∧ 8388608 < c + (400 + zs.length * 32) ∧ (∃ q, e = .returned (.iface 78 q)) ∧ c' = c + (400 + zs.length * 32) ∧ l' = l) ∨
     (r + zs.length ≤ 100000 ∧ c + (400 + zs.length * 32) ≤ 8388608 ∧ e = .returned .nilIface ∧ c' = c + (400 + zs.length * 32) ∧ l' = l ++ syn zs))

set_option maxHeartbeats 800000 in
set_option maxRecDepth 100000 in
theorem writeSet_on8 (F : Interp) (B P b R : Nat) (p v : Value) (zs : List (Int × Int)) (r c pos : Int) (l : List UInt8) (w : World) (hF : F.answers w.tape) (h : Par P (.pointer (some ⟨b, 0, none⟩)) r c w) (hb : Bld B b p v l w)
    (hlen : l.length ≤ 1000000000) (hBw : B ≤ w.heap.size) (r0 : 0 ≤ r) (r1 : r ≤ 100000000) (c0 : 0 ≤ c) (c1 : c ≤ 100000000) (hm : zs.length ≤ 1000000) (hfit : Fit zs) (hR : RunesAt R zs w) (ht : w.cell? ⟨2, 15, none⟩ = some (.int .u8 4)) (hRP : R ≠ P) (h2P : 2 ≠ P) :
    Calls Tryf.prog 18 #[.pointer (some ⟨P, 0, none⟩), .int .i64 pos, .slice (some ⟨R, 0, none⟩) zs.length zs.length] w (OnPost8 B P b v zs r c l w) := by
  have Q := fun w r hF h hb hBw hR ht => writeMatch_on8 F B P b R p v zs r c pos l w hF h hb hlen hBw c0 c1 hm hfit hR ht hRP h2P
  have hne := h.ne hb
  unfold OnPost8
  generalize syn zs = t at Q ⊢
  obtain ⟨n, hN⟩ : ∃ n, n = zs.length := ⟨_, rfl⟩
  rw [← hN] at hm Q ⊢
  have hd : (n : Int) ≤ 1000000 := by omega
  clear hN
  go_enter Tryf.func18, Tryf.ntmps18
  go_wp2_with fail
  refine (count_any F P R n _ r c pos w hF h r0 (by omega)).mono ?_
  rintro e w1 ⟨he, h1, k1⟩
  have hb1 := hb.kept k1 (fun e => hne (.inl e.symm)) (fun k hk e => hne (.inr (by rw [← e]; exact hk)))
  rcases he with ⟨hc, rfl⟩ | ⟨hc, q, rfl⟩
  · go_wp2_with fail
    refine (Q w1 _ (by rw [k1.tape]; exact hF) h1 hb1 (by have := k1.size; omega) (hR.kept k1 hRP) (k1.cell ht h2P)).mono ?_
    rintro e w2 ⟨h2, k2, he⟩
    have k12 : Keeps (Both P b v) w w2 := (k1.mono (fun _ _ h => .inl h)).trans k2
    rcases he with ⟨hcc, rfl, p', v', hb2, hblk⟩ | ⟨hcc, ⟨q, rfl⟩, hb2⟩
    · have HBLK : Hid (∀ k, v'.ownBlock = some k → v.ownBlock = some k ∨ w.heap.size ≤ k) := fun k hk => by
        rcases hblk k hk with h | h
        · exact .inl h
        · exact .inr (Nat.le_trans k1.size h)
      clear hblk
      go_wp2
      go_ret
      exact ⟨p', v', _, _, h2, hb2, k12, HBLK.out, .inr (.inr ⟨hc, hcc, rfl, rfl, rfl⟩)⟩
    · go_wp2
      go_ret
      exact ⟨p, v, _, _, h2, hb2, k12, fun k hk => .inl hk, .inr (.inl ⟨hc, hcc, ⟨q, rfl⟩, rfl, rfl⟩)⟩
  · go_wp2
    go_ret
    exact ⟨p, v, _, _, h1, hb1, k1.mono (fun _ _ h => .inl h), fun k hk => .inl hk, .inl ⟨hc, ⟨q, rfl⟩, rfl, rfl⟩⟩

theorem zzWriteSet_on8 (F : Interp) (B P b R : Nat) (p v : Value) (zs : List (Int × Int)) (r c pos : Int) (l : List UInt8) (w : World) (hF : F.answers w.tape) (h : Par P (.pointer (some ⟨b, 0, none⟩)) r c w) (hb : Bld B b p v l w)
    (hlen : l.length ≤ 1000000000) (hBw : B ≤ w.heap.size) (r0 : 0 ≤ r) (r1 : r ≤ 100000000) (c0 : 0 ≤ c) (c1 : c ≤ 100000000) (hm : zs.length ≤ 1000000) (hfit : Fit zs) (hR : RunesAt R zs w) (ht : w.cell? ⟨2, 15, none⟩ = some (.int .u8 4)) (hRP : R ≠ P) (h2P : 2 ≠ P) :
    Calls Tryf.prog 8 #[.pointer (some ⟨P, 0, none⟩), .int .i64 pos, .slice (some ⟨R, 0, none⟩) zs.length zs.length] w (OnPost8 B P b v zs r c l w) :=
  (zzWriteSet P R _ pos w _ ((writeSet_on8 F B P b R p v zs r c pos l w hF h hb hlen hBw r0 r1 c0 c1 hm hfit hR ht hRP h2P).mono fun e w' h => ⟨by
    obtain ⟨_, _, _, _, _, _, _, _, ⟨_, ⟨_, rfl⟩, _⟩ | ⟨_, _, ⟨_, rfl⟩, _⟩ | ⟨_, _, rfl, _⟩⟩ := h
    · exact .inr ⟨_, rfl⟩
    · exact .inr ⟨_, rfl⟩
    · exact .inl rfl, h⟩)).mono fun _ _ h => h.1

end Go.Proofs.Qxb6613280aFmt
