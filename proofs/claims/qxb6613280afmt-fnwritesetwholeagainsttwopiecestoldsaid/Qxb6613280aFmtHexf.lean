/-
  strconv.FormatInt at base 16 (internal/strconv.formatBits), by contracts.
-/
import Derived.Test.Qxb6613280aFmtRows
import Derived.Test.Qxb6613280aFmtPlain
import Derived.WalkKit
import Derived.ProofKit
import Derived.OpenShut
import Derived.WalkSpells
import Derived.WalkLawsBesides
import Derived.Laws.BitsAllLaws
import Derived.Laws.BytesArg
namespace Go.Proofs.Qxb6613280aFmt
open Go.ChangeShapes Go.WideShapes Go.ChangeAt Go.RowKit

set_option maxHeartbeats 400000 in
theorem pow2_any (w : World) : Calls Tryf.prog 47 #[.int .i64 16] w fun e w' => e = .returned (.bool true) ∧ w' = w := by
  have h : bits BinOp.and IntKind.i64 16 15 = 0 := by decide
  go_enter Tryf.func47, Tryf.ntmps47
  go_wp2
  go_ret
  exact ⟨rfl, rfl⟩

set_option maxHeartbeats 400000 in
theorem tz64_any (w : World) (ht : w.cell? ⟨2, 15, none⟩ = some (.int .u8 4)) : Calls Tryf.prog 50 #[.int .u64 16] w fun e w' => e = .returned (.int .i64 4) ∧ w' = w := by
  have h1 : IntKind.u64.wrap (-16) = 18446744073709551600 := by decide
  have h2 : bits BinOp.and IntKind.u64 16 18446744073709551600 = 16 := by decide
  have h3 : IntKind.u64.wrap (16 * 285870213051353865) = 4573923408821661840 := by decide
  have h4 : IntKind.u64.wrap 4573923408821661840 = 4573923408821661840 := by decide
  go_enter Tryf.func50, Tryf.ntmps50
  go_wp2
  go_ret
  exact ⟨rfl, rfl⟩

set_option maxHeartbeats 400000 in
theorem tz_any (w : World) (ht : w.cell? ⟨2, 15, none⟩ = some (.int .u8 4)) : Calls Tryf.prog 48 #[.int .u64 16] w fun e w' => e = .returned (.int .i64 4) ∧ w' = w := by
  go_enter Tryf.func48, Tryf.ntmps48
  go_wp2_with (go_at_call 50; refine (tz64_any _ ht).mono ?_; rintro e w' ⟨rfl, rfl⟩)
  go_ret
  exact ⟨rfl, rfl⟩

/-- A new [65]byte. -/
def zero65 : Array Value := Array.replicate 65 (.int .u8 0)
theorem Tryf.zero85 (w : World) : (zeroValue 85).run Tryf.prog w = .ok (.agg zero65) w := by kernel_rfl


theorem ret_str {x : Value} {a b : List Int} (h : a = b) : Ending.returned (.tuple #[x, .string (strOfNums a)]) = .returned (.tuple #[x, .string (strOfNums b)]) := by rw [h]

/-- The [65]byte at block A holds ds from place i on. -/
def Arr (A i : Nat) (ds : List Int) (w : World) : Prop :=
  ∃ C, w.heap[A]? = some (.cells C 85 (0, 0)) ∧ C.size = 65 ∧ i + ds.length = 65 ∧ ∀ j x, ds[j]? = some x → C[i + j]? = some (.int .u8 x)

theorem Arr.cell {A i : Nat} {ds : List Int} {w : World} (h : Arr A i ds w) (k : Nat) (hk : k < 65) : ∃ x, w.cell? ⟨A, k, none⟩ = some x := by
  obtain ⟨C, hh, hs, _⟩ := h
  refine ⟨C[k]'(by omega), ?_⟩
  simp [World.cell?, hh, hs, hk]
theorem Arr.frozen {A i : Nat} {ds : List Int} {w : World} (h : Arr A i ds w) (k : Nat) : w.frozen? ⟨A, k, none⟩ = false := by
  obtain ⟨C, hh, _⟩ := h
  simp [World.frozen?, hh]
theorem Arr.read {A i : Nat} {ds : List Int} {w : World} (h : Arr A i ds w) (j : Nat) (x : Int) (hx : ds[j]? = some x) : w.cell? ⟨A, i + j, none⟩ = some (.int .u8 x) := by
  obtain ⟨C, hh, hs, _, hc⟩ := h
  simp [World.cell?, hh, hc j x hx]
theorem Arr.put {A i : Nat} {ds : List Int} {w : World} (h : Arr A (i + 1) ds w) (x : Int) : Arr A i (x :: ds) (w.setCell ⟨A, i, none⟩ (.int .u8 x)) := by
  obtain ⟨C, hh, hs, hl, hc⟩ := h
  refine ⟨C.setIfInBounds i (.int .u8 x), ?_, by simpa using hs, by simp; omega, ?_⟩
  · simp [World.setCell, Array.getElem?_modify, hh]
  · intro j y hy
    match j, hy with
    | 0, hy =>
      simp at hy
      subst hy
      simp [Array.getElem?_setIfInBounds]
      omega
    | j + 1, hy =>
      simp at hy
      have := hc j y hy
      rw [show i + 1 + j = i + (j + 1) from by omega] at this
      rw [Array.getElem?_setIfInBounds]
      rw [if_neg (by omega)]
      exact this

theorem digits36 (x : Int) (h0 : 0 ≤ x) (h1 : x < 16) (p : x.toNat < (⟨#[48, 49, 50, 51, 52, 53, 54, 55, 56, 57, 97, 98, 99, 100, 101, 102, 103, 104, 105, 106, 107, 108, 109, 110, 111, 112, 113, 114, 115, 116, 117, 118, 119, 120, 121, 122]⟩ : ByteArray).size) :
    (((⟨#[48, 49, 50, 51, 52, 53, 54, 55, 56, 57, 97, 98, 99, 100, 101, 102, 103, 104, 105, 106, 107, 108, 109, 110, 111, 112, 113, 114, 115, 116, 117, 118, 119, 120, 121, 122]⟩ : ByteArray)[x.toNat]'p).toNat : Int) = dig x := by
  obtain ⟨n, rfl⟩ := Int.eq_ofNat_of_zero_le h0
  have hn : n < 16 := by omega
  clear h0 h1
  match n, hn, p with
  | 0, _, _ | 1, _, _ | 2, _, _ | 3, _, _ | 4, _, _ | 5, _, _ | 6, _, _ | 7, _, _ | 8, _, _ | 9, _, _ | 10, _, _ | 11, _, _ | 12, _, _ | 13, _, _ | 14, _, _ | 15, _, _ => rfl
  | n + 16, h, _ => omega

theorem and15 (x : Int) (h0 : 0 ≤ x) (h1 : x ≤ 18446744073709551615) : bits BinOp.and IntKind.u64 x 15 = x % 16 := by
  rw [u64_and x 15 h0 (by omega) (by omega) (by omega)]
  have : (x.toNat &&& (15 : Int).toNat) = x.toNat % 16 := Nat.and_two_pow_sub_one_eq_mod x.toNat 4
  rw [this]; omega

theorem arr_new (w : World) : Arr w.heap.size 65 [] (w.alloc (.cells zero65 85)) :=
  ⟨zero65, heap_alloc_new w _, by simp [zero65], by simp, fun j x hx => by simp at hx⟩

theorem Tryf.len85 : Tryf.prog.arrayLen 85 = 65 := by kernel_rfl
theorem Tryf.elem85 (w : World) : (sizeOf (Tryf.prog.elem 85)).run Tryf.prog w = .ok 1 w := by kernel_rfl
theorem slice85 (A k : Nat) (w : World) (hk : k < 65) : (Instr.sliceAt 85 (.pointer (some ⟨A, 0, none⟩)) (some (.int .i64 (k : Int))) none none).run Tryf.prog w = .ok (.slice (some ⟨A, k, none⟩) (65 - k) (65 - k)) w := by
  rw [run_sliceAt_array_l w 85 ⟨A, 0, none⟩ (by kernel_rfl) .i64 (k : Int) (by omega) (by rw [Tryf.len85]; omega), Tryf.elem85, Tryf.len85]
  simp only [Result.andThen, slicedAt, Int.toNat_natCast, Nat.mul_one]
  rw [if_neg (by omega), add_plain]
  simp

theorem Arr.conv {A i : Nat} {ds : List Int} {w : World} (h : Arr A i ds w) : (convert 51 9 (.slice (some ⟨A, i, none⟩) (65 - i) (65 - i))).run Tryf.prog w = .ok (.string (strOfNums ds)) w := by
  have hl : ds.length = 65 - i := by obtain ⟨_, _, _, h, _⟩ := h; omega
  exact run_convert_bytes_arg (P := Tryf.prog) w 51 5 Tryf.underlying51 Tryf.underlying5 A i (65 - i) (65 - i) ds hl (fun j hj => h.read j _ (by rw [List.getD_eq_getElem?_getD, List.getElem?_eq_getElem (by omega)]; rfl)) 9 Tryf.underlying9

set_option maxHeartbeats 1000000 in
theorem bits_pos (u : Int) (w : World) (ht : w.cell? ⟨2, 15, none⟩ = some (.int .u8 4)) (h0 : 0 ≤ u) (h1 : u ≤ 2147483648) :
    Calls Tryf.prog 43 #[.slice none 0 0, .int .u64 u, .int .i64 16, .bool false, .bool false] w fun e w' => (∃ x, e = .returned (.tuple #[x, .string (strOfNums (hexF 8 u))])) ∧ Below w.heap.size w w' := by
  have hz := Tryf.zero85
  go_enter Tryf.func43, Tryf.ntmps43
  go_wp2_with fail
  refine (pow2_any _).mono ?_
  rintro e w' ⟨rfl, rfl⟩
  go_wp2_with fail
  refine (tz_any _ ?_).mono ?_
  · exact (((Below.refl _ _).alloc (Nat.le_refl _) _).cell (World.block_lt_of_cell? _ _ ht)).trans ht
  rintro e w1 ⟨rfl, hw1⟩
  have hA := arr_new w
  have hB : Below w.heap.size w (w.alloc (.cells zero65 85)) := (Below.refl _ _).alloc (Nat.le_refl _) _
  rw [← hw1] at hA hB
  clear hw1
  go_wp2
  go_loopw [1, 13] (fun a b wr => ∃ (v : Int) (k : Nat) (ds : List Int) (f : Nat), a = .int .u64 v ∧ b = .int .i64 k ∧ 0 ≤ v ∧ v < 16 ^ (f + 1) ∧ hexF f v ++ ds = hexF 8 u ∧ f + ds.length = 8 ∧ Arr w.heap.size k ds wr ∧ Below w.heap.size w wr)
    (fun a _ _ => (intOf a).toNat)
  case atStart => exact ⟨u, 65, [], 8, rfl, rfl, by omega, by omega, by simp, rfl, hA, hB⟩
  case round =>
    obtain ⟨v, k, ds, f, rfl, rfl, v0, v1, hv, hf, hA, hB⟩ := hrel
    have hk : k + ds.length = 65 := by obtain ⟨_, _, _, h, _⟩ := hA; exact h
    obtain ⟨k, rfl⟩ : ∃ k', k = k' + 1 := ⟨k - 1, by omega⟩
    have v2 : v ≤ 18446744073709551615 := by
      have h16 : (16 : Int) ^ (f + 1) ≤ 16 ^ 9 := by
        have e : (16 : Int) ^ 9 = 16 ^ (f + 1) * 16 ^ (8 - f) := by rw [← Int.pow_add]; congr 1; omega
        have p1 : (0 : Int) < 16 ^ (f + 1) := Int.pow_pos (by omega)
        have p2 : (1 : Int) ≤ 16 ^ (8 - f) := Int.pow_pos (by omega)
        have := Int.mul_le_mul_of_nonneg_left p2 (Int.le_of_lt p1)
        omega
      have : (16 : Int) ^ 9 = 68719476736 := by decide
      omega
    have HV : Hid (v < 16 ^ (f + 1)) := v1
    have HE : Hid (hexF f v ++ ds = hexF 8 u) := hv
    clear v1 hv
    obtain ⟨c, hc⟩ := hA.cell k (by omega)
    have hfz := hA.frozen k
    by_cases hlt : 16 ≤ v
    · have ha := and15 v v0 v2
      have m0 : 0 ≤ v % 16 := by omega
      have m1 : v % 16 < 16 := by omega
      have HA : Hid (Arr w.heap.size (k + 1) ds wr) := hA
      have HB : Hid (Below w.heap.size w wr) := hB
      clear hA hB
      go_wp2
      go_roundw
      case rel =>
        obtain ⟨f, rfl⟩ : ∃ f', f = f' + 1 := by
          cases f with
          | zero => have := HV.out; simp at this; omega
          | succ f => exact ⟨f, rfl⟩
        rw [digits36 (v % 16) m0 m1]
        refine ⟨v / 16, k, dig (v % 16) :: ds, f, ?_, by go_num, by omega, ?_, ?_, by simp; omega, HA.out.put _, HB.out.setCell (Nat.le_refl _) _⟩
        · rfl
        · have := HV.out
          rw [Int.pow_succ] at this
          generalize (16 : Int) ^ (f + 1) = q at *
          omega
        · have := HE.out
          rw [hexF, if_neg (by omega)] at this
          simpa using this
      case measure => simp [intOf]; omega
    · have m1 : v < 16 := by omega
      have HA : Hid (Arr w.heap.size (k + 1) ds wr) := hA
      have HB : Hid (Below w.heap.size w wr) := hB
      clear hA hB
      go_wp2_with fail
      rw [digits36 v v0 m1, slice85 _ k _ (by omega)]
      simp only [Result.andThen]
      rw [Oper.upon_value]
      have hcv := (HA.out.put (dig v)).conv
      have e8 : hexF 8 u = dig v :: ds := by
        have := HE.out
        rw [hexF_one f v m1] at this
        simpa using this.symm
      go_wp2
      go_ret2
      exact ⟨⟨.slice none 0 0, ret_str (by rw [e8])⟩, HB.out.setCell (Nat.le_refl _) _⟩

set_option maxHeartbeats 1000000 in
theorem bits_neg (u : Int) (w : World) (ht : w.cell? ⟨2, 15, none⟩ = some (.int .u8 4)) (h0 : 1 ≤ u) (h1 : u ≤ 2147483648) :
    Calls Tryf.prog 43 #[.slice none 0 0, .int .u64 (18446744073709551616 - u), .int .i64 16, .bool true, .bool false] w fun e w' => (∃ x, e = .returned (.tuple #[x, .string (strOfNums (45 :: hexF 8 u))])) ∧ Below w.heap.size w w' := by
  have hz := Tryf.zero85
  have hneg : IntKind.u64.wrap (-(18446744073709551616 - u)) = u := by rw [IntKind.wrap_u64]; omega
  go_enter Tryf.func43, Tryf.ntmps43
  go_wp2_with fail
  refine (pow2_any _).mono ?_
  rintro e w' ⟨rfl, rfl⟩
  go_wp2_with fail
  refine (tz_any _ ?_).mono ?_
  · exact (((Below.refl _ _).alloc (Nat.le_refl _) _).cell (World.block_lt_of_cell? _ _ ht)).trans ht
  rintro e w1 ⟨rfl, hw1⟩
  have hA := arr_new w
  have hB : Below w.heap.size w (w.alloc (.cells zero65 85)) := (Below.refl _ _).alloc (Nat.le_refl _) _
  rw [← hw1] at hA hB
  clear hw1
  go_wp2
  go_loopw [1, 13] (fun a b wr => ∃ (v : Int) (k : Nat) (ds : List Int) (f : Nat), a = .int .u64 v ∧ b = .int .i64 k ∧ 0 ≤ v ∧ v < 16 ^ (f + 1) ∧ hexF f v ++ ds = hexF 8 u ∧ f + ds.length = 8 ∧ Arr w.heap.size k ds wr ∧ Below w.heap.size w wr)
    (fun a _ _ => (intOf a).toNat)
  case atStart => exact ⟨u, 65, [], 8, rfl, rfl, by omega, by omega, by simp, rfl, hA, hB⟩
  case round =>
    obtain ⟨v, k, ds, f, rfl, rfl, v0, v1, hv, hf, hA, hB⟩ := hrel
    have hk : k + ds.length = 65 := by obtain ⟨_, _, _, h, _⟩ := hA; exact h
    obtain ⟨k, rfl⟩ : ∃ k', k = k' + 1 := ⟨k - 1, by omega⟩
    have v2 : v ≤ 18446744073709551615 := by
      have h16 : (16 : Int) ^ (f + 1) ≤ 16 ^ 9 := by
        have e : (16 : Int) ^ 9 = 16 ^ (f + 1) * 16 ^ (8 - f) := by rw [← Int.pow_add]; congr 1; omega
        have p1 : (0 : Int) < 16 ^ (f + 1) := Int.pow_pos (by omega)
        have p2 : (1 : Int) ≤ 16 ^ (8 - f) := Int.pow_pos (by omega)
        have := Int.mul_le_mul_of_nonneg_left p2 (Int.le_of_lt p1)
        omega
      have : (16 : Int) ^ 9 = 68719476736 := by decide
      omega
    have HV : Hid (v < 16 ^ (f + 1)) := v1
    have HE : Hid (hexF f v ++ ds = hexF 8 u) := hv
    clear v1 hv
    obtain ⟨c, hc⟩ := hA.cell k (by omega)
    have hfz := hA.frozen k
    obtain ⟨c2, hc2⟩ := hA.cell (k - 1) (by omega)
    have hfz2 := hA.frozen (k - 1)
    by_cases hlt : 16 ≤ v
    · have ha := and15 v v0 v2
      have m0 : 0 ≤ v % 16 := by omega
      have m1 : v % 16 < 16 := by omega
      have HA : Hid (Arr w.heap.size (k + 1) ds wr) := hA
      have HB : Hid (Below w.heap.size w wr) := hB
      clear hA hB
      go_wp2
      go_roundw
      case rel =>
        obtain ⟨f, rfl⟩ : ∃ f', f = f' + 1 := by
          cases f with
          | zero => have := HV.out; simp at this; omega
          | succ f => exact ⟨f, rfl⟩
        rw [digits36 (v % 16) m0 m1]
        refine ⟨v / 16, k, dig (v % 16) :: ds, f, ?_, by go_num, by omega, ?_, ?_, by simp; omega, HA.out.put _, HB.out.setCell (Nat.le_refl _) _⟩
        · rfl
        · have := HV.out
          rw [Int.pow_succ] at this
          generalize (16 : Int) ^ (f + 1) = q at *
          omega
        · have := HE.out
          rw [hexF, if_neg (by omega)] at this
          simpa using this
      case measure => simp [intOf]; omega
    · have m1 : v < 16 := by omega
      have HA : Hid (Arr w.heap.size (k + 1) ds wr) := hA
      have HB : Hid (Below w.heap.size w wr) := hB
      clear hA hB
      go_wp2_with fail
      rw [digits36 v v0 m1, show (k : Int) - 1 = ((k - 1 : Nat) : Int) from by omega, slice85 _ (k - 1) _ (by omega)]
      simp only [Result.andThen]
      rw [Oper.upon_value]
      obtain ⟨k, rfl⟩ : ∃ k', k = k' + 1 := ⟨k - 1, by omega⟩
      have hcv := ((HA.out.put (dig v)).put 45).conv
      rw [show k + 1 - 1 = k from by omega]
      have e8 : hexF 8 u = dig v :: ds := by
        have := HE.out
        rw [hexF_one f v m1] at this
        simpa using this.symm
      go_wp2
      go_ret2
      exact ⟨⟨.slice none 0 0, ret_str (by rw [e8])⟩, (HB.out.setCell (Nat.le_refl _) _).setCell (Nat.le_refl _) _⟩

set_option maxHeartbeats 1000000 in
theorem format_any (c : Int) (w : World) (ht : w.cell? ⟨2, 15, none⟩ = some (.int .u8 4)) (h0 : -2147483648 ≤ c) (h1 : c ≤ 2147483647) :
    Calls Tryf.prog 37 #[.int .i64 c, .int .i64 16] w fun e w' => e = .returned (.string (strOfNums (fmt16 c))) ∧ Below w.heap.size w w' := by
  by_cases hn : c < 0
  · have hd : decide (c < 0) = true := decide_eq_true hn
    have e1 : fmt16 c = 45 :: hexF 8 (-c) := by unfold fmt16; rw [if_pos hn]
    have hw : IntKind.u64.wrap c = 18446744073709551616 - (-c) := by rw [IntKind.wrap_u64]; omega
    have HC : Hid (Calls Tryf.prog 43 #[.slice none 0 0, .int .u64 (18446744073709551616 - (-c)), .int .i64 16, .bool true, .bool false] w fun e w' => (∃ x, e = .returned (.tuple #[x, .string (strOfNums (45 :: hexF 8 (-c)))])) ∧ Below w.heap.size w w') := bits_neg (-c) w ht (by omega) (by omega)
    rw [e1]
    generalize 18446744073709551616 - (-c) = u at *
    generalize strOfNums (45 :: hexF 8 (-c)) = r at *
    clear hn
    go_enter Tryf.func37, Tryf.ntmps37
    go_wp2_with fail
    refine HC.out.mono ?_
    rintro e w' ⟨⟨x, rfl⟩, hb⟩
    go_wp2
    go_ret
    exact ⟨rfl, hb⟩
  · have hd : decide (c < 0) = false := decide_eq_false hn
    have e1 : fmt16 c = hexF 8 c := by unfold fmt16; rw [if_neg hn]
    have hc0 : 0 ≤ c := by omega
    have HC : Hid (Calls Tryf.prog 43 #[.slice none 0 0, .int .u64 c, .int .i64 16, .bool false, .bool false] w fun e w' => (∃ x, e = .returned (.tuple #[x, .string (strOfNums (hexF 8 c))])) ∧ Below w.heap.size w w') := bits_pos c w ht (by omega) (by omega)
    rw [e1]
    generalize strOfNums (hexF 8 c) = r at *
    clear hn
    go_enter Tryf.func37, Tryf.ntmps37
    go_wp2_with fail
    refine HC.out.mono ?_
    rintro e w' ⟨⟨x, rfl⟩, hb⟩
    go_wp2
    go_ret
    exact ⟨rfl, hb⟩

set_option maxHeartbeats 1000000 in
theorem formatInt_any (c : Int) (w : World) (ht : w.cell? ⟨2, 15, none⟩ = some (.int .u8 4)) (h0 : -2147483648 ≤ c) (h1 : c ≤ 2147483647) :
    Calls Tryf.prog 34 #[.int .i64 c, .int .i64 16] w fun e w' => e = .returned (.string (strOfNums (fmt16 c))) ∧ Below w.heap.size w w' := by
  go_enter Tryf.func34, Tryf.ntmps34
  go_wp2_with fail
  refine (format_any c _ ht h0 h1).mono ?_
  rintro e w' ⟨rfl, hb⟩
  go_wp2
  go_ret
  exact ⟨rfl, hb⟩

end Go.Proofs.Qxb6613280aFmt
