/-
  Plain mathematics for 'FnKeepsAgreesWithThText': the th text of a 56-bit number, and that byte order of two such texts is the order of the numbers. No Go in sight.
-/
namespace Go.Proofs.Qxb6614033a

/-- The character of a hex digit. -/
def dig (x : Int) : Int := if x < 10 then 48 + x else 87 + x
/-- The k high digits of the n low hex digits of v. -/
def hexs (v : Int) (n : Nat) : Nat → List Int
  | 0 => []
  | k + 1 => hexs v n k ++ [dig (v / 2 ^ (4 * (n - 1 - k)) % 16)]

theorem hexs_length (v : Int) (n k : Nat) : (hexs v n k).length = k := by
  induction k with
  | zero => rfl
  | succ k ih => simp [hexs, ih]

theorem hexs_get (v : Int) (n k j : Nat) (h : j < k) : (hexs v n k)[j]? = some (dig (v / 2 ^ (4 * (n - 1 - j)) % 16)) := by
  induction k with
  | zero => omega
  | succ k ih =>
    by_cases e : j = k
    · subst e
      have hl := hexs_length v n j
      rw [hexs, List.getElem?_append_right (by omega)]
      simp [hl]
    · have hl := hexs_length v n k
      rw [hexs, List.getElem?_append_left (by omega)]
      exact ih (by omega)

theorem dig_bd (x : Int) (h0 : 0 ≤ x) (h1 : x < 16) : 48 ≤ dig x ∧ dig x ≤ 102 := by
  unfold dig; split <;> omega

theorem dig_lt (x y : Int) (h0 : 0 ≤ x) (h1 : y < 16) : dig x < dig y ↔ x < y := by
  unfold dig; split <;> split <;> omega

/-- The j-th of the 14 hex digits of t. -/
def D (t : Int) (j : Nat) : Int := t / 2 ^ (4 * (13 - j)) % 16
/-- What the first i of the 14 hex digits of t say. -/
def P (t : Int) (i : Nat) : Int := t / 2 ^ (4 * (14 - i))

theorem D_bd (t : Int) (j : Nat) : 0 ≤ D t j ∧ D t j < 16 := by unfold D; omega

theorem pow4 (a : Nat) : (2 : Int) ^ (4 * (a + 1)) = 2 ^ (4 * a) * 16 := by
  rw [show 4 * (a + 1) = 4 * a + 4 from by omega, Int.pow_add]; rfl

theorem pow_pos' (a : Nat) : (0 : Int) < 2 ^ a := Int.pow_pos (by omega)

theorem P_succ (t : Int) (i : Nat) (h : i < 14) : P t (i + 1) = 16 * P t i + D t i := by
  unfold P D
  rw [show 14 - (i + 1) = 13 - i from by omega, show 14 - i = (13 - i) + 1 from by omega, pow4, ← Int.ediv_ediv_of_nonneg (Int.le_of_lt (pow_pos' _))]
  omega

theorem P_lt (r t : Int) (i : Nat) (h : P r i < P t i) : r < t := by
  by_cases k : r < t
  · exact k
  · have k : t ≤ r := by omega
    have := Int.ediv_le_ediv (pow_pos' (4 * (14 - i))) k
    unfold P at h; omega

theorem P_all (t : Int) : P t 14 = t := by unfold P; simp

theorem P_zero (t : Int) (h0 : 0 ≤ t) (h1 : t ≤ 72057594037927935) : P t 0 = 0 := by
  unfold P
  have : (2 : Int) ^ (4 * (14 - 0)) = 72057594037927936 := by decide
  rw [this]; omega

/-- L is the th text of t. -/
def Txt (t : Int) (L : List Int) : Prop :=
  ∃ n, 1 ≤ n ∧ n ≤ 14 ∧ L.length = n ∧ (∀ j, j < n → L[j]? = some (dig (D t j))) ∧ t % 2 ^ (4 * (14 - n)) = 0 ∧ (n = 1 ∨ D t (n - 1) ≠ 0)

theorem txt_zero : Txt 0 [48] := ⟨1, by omega, by omega, rfl, fun j hj => by
  obtain rfl : j = 0 := by omega
  rfl, by simp, .inl rfl⟩

theorem txt_hexs (t : Int) (k : Nat) (hk : k ≤ 13) (hm : t % 2 ^ (4 * k) = 0) (hd : t / 2 ^ (4 * k) % 16 ≠ 0) : Txt t (hexs (t / 2 ^ (4 * k)) (14 - k) (14 - k)) := by
  refine ⟨14 - k, by omega, by omega, hexs_length _ _ _, fun j hj => ?_, by rw [show 14 - (14 - k) = k from by omega]; exact hm, .inr ?_⟩
  · rw [hexs_get _ _ _ _ hj]
    unfold D
    rw [Int.ediv_ediv_of_nonneg (Int.le_of_lt (pow_pos' _)), ← Int.pow_add, show 4 * k + 4 * (14 - k - 1 - j) = 4 * (13 - j) from by omega]
  · unfold D
    rw [show 13 - (14 - k - 1) = k from by omega]; exact hd

/-- One text held against another, byte by byte: 'a is at least b'. -/
def Verdict (a b : List Int) (res : Bool) : Prop :=
  ∃ i, i ≤ a.length ∧ i ≤ b.length ∧ (∀ j, j < i → a[j]? = b[j]?) ∧
    ((∃ x y, a[i]? = some x ∧ b[i]? = some y ∧ x ≠ y ∧ res = decide (y < x)) ∨ ((a.length = i ∨ b.length = i) ∧ res = decide (b.length ≤ a.length)))

theorem low_zero (x : Int) (a b : Nat) (h : x % 2 ^ (4 * (a + b + 1)) = 0) : x / 2 ^ (4 * a) % 16 = 0 := by
  obtain ⟨y, rfl⟩ := Int.dvd_of_emod_eq_zero h
  have e : (2 : Int) ^ (4 * (a + b + 1)) * y = 2 ^ (4 * a) * (16 * (2 ^ (4 * b) * y)) := by
    rw [pow4, show 4 * (a + b) = 4 * a + 4 * b from by omega, Int.pow_add]
    simp only [Int.mul_assoc, Int.mul_left_comm]
  rw [e, Int.mul_ediv_cancel_left _ (by have := pow_pos' (4 * a); omega)]
  omega

theorem eq_of_mod (t : Int) (i : Nat) (h : t % 2 ^ (4 * (14 - i)) = 0) : t = 2 ^ (4 * (14 - i)) * P t i := by
  unfold P
  have := Int.mul_ediv_add_emod t (2 ^ (4 * (14 - i)))
  omega

theorem ge_of_P (t : Int) (i : Nat) : 2 ^ (4 * (14 - i)) * P t i ≤ t := by
  unfold P
  have := Int.mul_ediv_add_emod t (2 ^ (4 * (14 - i)))
  have := Int.emod_nonneg t (show (2 : Int) ^ (4 * (14 - i)) ≠ 0 by have := pow_pos' (4 * (14 - i)); omega)
  omega

theorem verdict_le (t r : Int) (T R : List Int) (res : Bool) (t0 : 0 ≤ t) (t1 : t ≤ 72057594037927935) (r0 : 0 ≤ r) (r1 : r ≤ 72057594037927935)
    (ht : Txt t T) (hr : Txt r R) (h : Verdict R T res) : res = decide (t ≤ r) := by
  obtain ⟨n, n1, n14, tl, tj, tm, tz⟩ := ht
  obtain ⟨m, m1, m14, rl, rj, rm, rz⟩ := hr
  obtain ⟨i, ia, ib, he, h⟩ := h
  have inj : ∀ j, j < i → D r j = D t j := by
    intro j hj
    have e := he j hj
    rw [rj j (by omega), tj j (by omega)] at e
    have e := Option.some.inj e
    have b1 := D_bd r j
    have b2 := D_bd t j
    have l1 := dig_lt (D r j) (D t j) b1.1 b2.2
    have l2 := dig_lt (D t j) (D r j) b2.1 b1.2
    omega
  have pe : ∀ j, j ≤ i → P r j = P t j := by
    intro j
    induction j with
    | zero => intro _; rw [P_zero t t0 t1, P_zero r r0 r1]
    | succ j ih =>
      intro hj
      rw [P_succ _ _ (by omega), P_succ _ _ (by omega), ih (by omega), inj j (by omega)]
  have pi := pe i (Nat.le_refl _)
  rcases h with ⟨x, y, hx, hy, hne, rfl⟩ | ⟨hl, rfl⟩
  · have him : i < R.length := by
      rcases Nat.lt_or_ge i R.length with k | k
      · exact k
      · rw [List.getElem?_eq_none k] at hx; cases hx
    have hin : i < T.length := by
      rcases Nat.lt_or_ge i T.length with k | k
      · exact k
      · rw [List.getElem?_eq_none k] at hy; cases hy
    rw [rj i (by omega)] at hx
    rw [tj i (by omega)] at hy
    obtain rfl := Option.some.inj hx
    obtain rfl := Option.some.inj hy
    have b1 := D_bd r i
    have b2 := D_bd t i
    have l1 := dig_lt (D r i) (D t i) b1.1 b2.2
    have l2 := dig_lt (D t i) (D r i) b2.1 b1.2
    have s1 := P_succ r i (by omega)
    have s2 := P_succ t i (by omega)
    rw [decide_eq_decide]
    by_cases hlt : D t i < D r i
    · have := P_lt t r (i + 1) (by omega)
      exact ⟨fun _ => by omega, fun _ => l2.2 hlt⟩
    · have hlt' : D r i < D t i := by
        rcases Int.lt_trichotomy (D r i) (D t i) with k | k | k
        · exact k
        · rw [k] at hne; exact absurd rfl hne
        · omega
      have := P_lt r t (i + 1) (by omega)
      exact ⟨fun h => absurd (l2.1 h) hlt, fun _ => by omega⟩
  · rw [decide_eq_decide]
    by_cases hmn : m < n
    · -- R is a proper beginning of T
      obtain rfl : i = m := by omega
      have e1 := eq_of_mod r i rm
      have e2 := ge_of_P t i
      have ne : r ≠ t := by
        intro e
        rcases tz with k | k
        · omega
        · apply k
          unfold D
          rw [show 13 - (n - 1) = 14 - n from by omega]
          apply low_zero t (14 - n) (n - 1 - i)
          rw [← e, show 14 - n + (n - 1 - i) + 1 = 14 - i from by omega]
          exact rm
      rw [pi] at e1
      constructor <;> intro _ <;> omega
    · obtain rfl : i = n := by omega
      have e1 := eq_of_mod t i tm
      have e2 := ge_of_P r i
      rw [pi] at e2
      constructor <;> intro _ <;> omega

end Go.Proofs.Qxb6614033a
