/-
  FnWriteSetWholeAgainstTwoPieces, walked.
-/
import Derived.Test.Qxb6613280aFmtParts8
import Derived.Deep.CutBlock
import Derived.Deep.CutRange
import Derived.Deep.DeepCutAuto
import Derived.Deep.RegionWith
namespace Go.Proofs.Qxb6613280aFmt
open Go.ChangeShapes Go.WideShapes Go.ChangeAt Go.RowKit Go.Extern.Stop Go.Stop Go.Extern

theorem Ints.take {a : Option Addr} {xs : List Int} {w : World} (h : Ints a xs w) (k : Nat) : Ints a (xs.take k) w :=
  ⟨fun j x hx => h.at_ j x (by rw [List.getElem?_take] at hx; split at hx <;> simp_all)⟩
theorem Ints.drop {D : Nat} {xs : List Int} {w : World} (h : Ints (some ⟨D, 0, none⟩) xs w) (k : Nat) : Ints (some ⟨D, k, none⟩) (xs.drop k) w :=
  ⟨fun j x hx => by
    rw [List.getElem?_drop] at hx
    obtain ⟨A, o, ha, hc⟩ := h.at_ (k + j) x hx
    simp at ha
    obtain ⟨rfl, rfl⟩ := ha
    exact ⟨D, k, rfl, by simpa using hc⟩⟩
theorem Ints.none_nil {xs : List Int} {w : World} (h : Ints none xs w) : xs = [] := by
  cases xs with
  | nil => rfl
  | cons x xs => obtain ⟨_, _, h, _⟩ := h.at_ 0 x rfl; cases h
theorem Ints.empty (a : Option Addr) (w : World) : Ints a [] w := ⟨fun j x hx => by simp at hx⟩
theorem Ints.below {a : Option Addr} {xs : List Int} {w w' : World} (h : Ints a xs w) (hb : Below w.heap.size w w') : Ints a xs w' :=
  h.kept (Keeps.of_below (S := fun _ => False) hb) (fun _ _ _ h => h)

/-- A slice that is nil and empty, or begins at its block's head and has no room to spare. -/
def Good (b : Option Addr) (d n : Nat) (xs : List Int) (w : World) : Prop := Ints b xs w ∧ ((b = none ∧ n = 0 ∧ d = 0) ∨ ∃ D, b = some ⟨D, 0, none⟩ ∧ d = n)

theorem slice_head (b : Option Addr) (d n k : Nat) (h : (b = none ∧ n = 0 ∧ d = 0) ∨ ∃ D, b = some ⟨D, 0, none⟩ ∧ d = n) (hk : k ≤ n) (W : World) :
    (Instr.slice 22 (.slice b n d) none (some (.int .i64 k)) none).run Tryf.prog W = .ok (.slice b k d) W := by
  rcases h with ⟨rfl, rfl, rfl⟩ | ⟨D, rfl, rfl⟩
  · obtain rfl : k = 0 := by omega
    go_simp
  · have h1 : ¬ (k : Int) < 0 := by omega
    have h2 : ¬ (d : Int) < k := by omega
    go_simp
theorem slice_tail (b : Option Addr) (d n k k2 : Nat) (xs : List Int) (w : World) (hI : Ints b xs w) (hx : xs.length = n) (h : (b = none ∧ n = 0 ∧ d = 0) ∨ ∃ D, b = some ⟨D, 0, none⟩ ∧ d = n) (hk : k + k2 = n) :
    ∃ e f, Ints e (xs.drop k) w ∧ ∀ W : World, (Instr.slice 22 (.slice b n d) (some (.int .i64 k)) none none).run Tryf.prog W = .ok (.slice e k2 f) W := by
  rcases h with ⟨rfl, rfl, rfl⟩ | ⟨D, rfl, rfl⟩
  · obtain rfl : k = 0 := by omega
    obtain rfl : k2 = 0 := by omega
    exact ⟨none, 0, by simpa using hI, fun W => by go_simp⟩
  · have h1 : ¬ (k : Int) < 0 := by omega
    have h2 : ¬ (d : Int) < k := by omega
    have h3 : d - k = k2 := by omega
    by_cases hkk : d = k
    · have : xs.drop k = [] := List.drop_eq_nil_of_le (by omega)
      rw [this]
      refine ⟨some ⟨D, 0, none⟩, k2, Ints.empty _ _, fun W => ?_⟩
      go_simp
      omega
    · refine ⟨some ⟨D, k, none⟩, k2, hI.drop k, fun W => ?_⟩
      go_simp
      intro h
      omega


theorem cat_text (a b : List UInt8) : (⟨(a ++ b).toArray⟩ : ByteArray) = ⟨a.toArray⟩ ++ ⟨b.toArray⟩ := by
  apply ByteArray.ext
  simp [ByteArray.data_append]

/-- One call of writeSet by a parser that translates: length, text and price under names, the buffer's block told. -/
theorem on_step8 (F : Interp) (B P b R n pr : Nat) (p v : Value) (zs : List (Int × Int)) (t : List UInt8) (r c pos : Int) (l : List UInt8) (w : World) (hpr : pr = 400 + n * 32) (hn : zs.length = n) (htx : syn zs = t) (hF : F.answers w.tape) (h : Par P (.pointer (some ⟨b, 0, none⟩)) r c w) (hb : Bld B b p v l w)
    (hlen : l.length ≤ 1000000000) (hBw : B ≤ w.heap.size) (r0 : 0 ≤ r) (r1 : r ≤ 100000000) (c0 : 0 ≤ c) (c1 : c ≤ 100000000) (hm : n ≤ 1000000) (hfit : Fit zs) (hR : RunesAt R zs w) (ht : w.cell? ⟨2, 15, none⟩ = some (.int .u8 4)) (hRP : R ≠ P) (h2P : 2 ≠ P) :
    Calls Tryf.prog 8 #[.pointer (some ⟨P, 0, none⟩), .int .i64 pos, .slice (some ⟨R, 0, none⟩) n n] w fun e w' => ∃ (p' v' : Value) (l' : List UInt8) (c' : Int), Par P (.pointer (some ⟨b, 0, none⟩)) (r + n) c' w' ∧ Bld B b p' v' l' w' ∧ Keeps (Both P b v) w w' ∧ (∀ k, v'.ownBlock = some k → v.ownBlock = some k ∨ w.heap.size ≤ k) ∧
    ((100000 < r + n ∧ (∃ q, e = .returned (.iface 78 q)) ∧ c' = c ∧ l' = l) ∨
     (r + n ≤ 100000 ∧ 8388608 < c + pr ∧ (∃ q, e = .returned (.iface 78 q)) ∧ c' = c + pr ∧ l' = l) ∨
     (r + n ≤ 100000 ∧ c + pr ≤ 8388608 ∧ e = .returned .nilIface ∧ c' = c + pr ∧ l' = l ++ t)) := by
  have hp : (400 + (n : Int) * 32) = pr := by omega
  rw [← hp]
  subst hn; subst htx
  exact zzWriteSet_on8 F B P b R p v zs r c pos l w hF h hb hlen hBw r0 r1 c0 c1 hm hfit hR ht hRP h2P

theorem fit_zip8 (xs ys : List Int) (h1 : ∀ x ∈ xs, -2147483648 ≤ x ∧ x ≤ 2147483647) (h2 : ∀ x ∈ ys, -2147483648 ≤ x ∧ x ≤ 2147483647) : Fit (xs.zip ys) := by
  rintro ⟨x, y⟩ hz
  have := List.of_mem_zip hz
  exact ⟨h1 x this.1, h2 y this.2⟩

set_option maxHeartbeats 4000000 in
set_option maxRecDepth 100000 in
theorem law8_out (r c : Int) (tr : Bool) (s : ByteArray) (pos k : Int) (a1 a2 : Option Addr) (n1 n2 c1 c2 : Nat) (w : World)
    (h : 65536 < n1 ∨ (¬ 65536 < n1 ∧ 65536 < n2) ∨ (¬ 65536 < n1 ∧ ¬ 65536 < n2 ∧ 524288 < s.size) ∨ (¬ 65536 < n1 ∧ ¬ 65536 < n2 ∧ ¬ 524288 < s.size ∧ n1 ≠ n2) ∨
      (¬ 65536 < n1 ∧ ¬ 65536 < n2 ∧ ¬ 524288 < s.size ∧ n1 = n2 ∧ r < 0) ∨ (¬ 65536 < n1 ∧ ¬ 65536 < n2 ∧ ¬ 524288 < s.size ∧ n1 = n2 ∧ ¬ r < 0 ∧ 100000 < r)) :
    Calls Tryf.prog 3 #[.int .i64 r, .int .i64 c, .bool tr, .string s, .int .i64 pos, .slice a1 n1 c1, .slice a2 n2 c2, .int .i64 k] w fun e w' => e = .returned (.bool true) ∧ Below w.heap.size w w' := by
  have Q := zzBytes8 r c tr s pos k a1 a2 n1 n2 c1 c2 w
  generalize hs : s.size = m at h
  rcases h with h | ⟨h, h'⟩ | ⟨h, h', h''⟩ | ⟨h, h', h'', h3⟩ | ⟨h, h', h'', rfl, h4⟩ | ⟨h, h', h'', rfl, h4, h5⟩
  · have t1 : (65536 : Int) < n1 := by omega
    go_enter Tryf.func3, Tryf.ntmps3
    go_wp2_with fail
    refine Q.mono ?_
    rintro e w1 ⟨rfl | rfl, hw⟩
    · obtain rfl := hw.symm
      go_wp2
      go_ret
      exact ⟨rfl, Below.refl _ _⟩
    · obtain rfl := hw.symm
      go_wp2
      go_ret
      exact ⟨rfl, Below.refl _ _⟩
  · have t1 : ¬ (65536 : Int) < n1 := by omega
    have t2 : (65536 : Int) < n2 := by omega
    go_enter Tryf.func3, Tryf.ntmps3
    go_wp2_with fail
    refine Q.mono ?_
    rintro e w1 ⟨rfl | rfl, hw⟩
    · obtain rfl := hw.symm
      go_wp2
      go_ret
      exact ⟨rfl, Below.refl _ _⟩
    · obtain rfl := hw.symm
      go_wp2
      go_ret
      exact ⟨rfl, Below.refl _ _⟩
  · have t1 : ¬ (65536 : Int) < n1 := by omega
    have t2 : ¬ (65536 : Int) < n2 := by omega
    have t3 : (524288 : Int) < m := by omega
    go_enter Tryf.func3, Tryf.ntmps3
    go_wp2_with fail
    refine Q.mono ?_
    rintro e w1 ⟨rfl | rfl, hw⟩
    · obtain rfl := hw.symm
      go_wp2
      go_ret
      exact ⟨rfl, Below.refl _ _⟩
    · obtain rfl := hw.symm
      go_wp2
      go_ret
      exact ⟨rfl, Below.refl _ _⟩
  · have t1 : ¬ (65536 : Int) < n1 := by omega
    have t2 : ¬ (65536 : Int) < n2 := by omega
    have t3 : ¬ (524288 : Int) < m := by omega
    have t4 : ((n1 : Int) != n2) = true := by simp; omega
    go_enter Tryf.func3, Tryf.ntmps3
    go_wp2_with fail
    refine Q.mono ?_
    rintro e w1 ⟨rfl | rfl, hw⟩
    · obtain rfl := hw.symm
      go_wp2
      go_ret
      exact ⟨rfl, Below.refl _ _⟩
    · obtain rfl := hw.symm
      go_wp2
      go_ret
      exact ⟨rfl, Below.refl _ _⟩
  · have t1 : ¬ (65536 : Int) < n1 := by omega
    have t3 : ¬ (524288 : Int) < m := by omega
    have t4 : ((n1 : Int) != n1) = false := by simp
    have t5 : decide (r < 0) = true := decide_eq_true h4
    go_enter Tryf.func3, Tryf.ntmps3
    go_wp2_with fail
    refine Q.mono ?_
    rintro e w1 ⟨rfl | rfl, hw⟩
    · obtain rfl := hw.symm
      go_wp2
      go_ret
      exact ⟨rfl, Below.refl _ _⟩
    · obtain rfl := hw.symm
      go_wp2
      go_ret
      exact ⟨rfl, Below.refl _ _⟩
  · have t1 : ¬ (65536 : Int) < n1 := by omega
    have t3 : ¬ (524288 : Int) < m := by omega
    have t4 : ((n1 : Int) != n1) = false := by simp
    have t5 : decide (r < 0) = false := decide_eq_false h4
    have t6 : decide (100000 < r) = true := decide_eq_true h5
    go_enter Tryf.func3, Tryf.ntmps3
    go_wp2_with fail
    refine Q.mono ?_
    rintro e w1 ⟨rfl | rfl, hw⟩
    · obtain rfl := hw.symm
      go_wp2
      go_ret
      exact ⟨rfl, Below.refl _ _⟩
    · obtain rfl := hw.symm
      go_wp2
      go_ret
      exact ⟨rfl, Below.refl _ _⟩

end Go.Proofs.Qxb6613280aFmt
