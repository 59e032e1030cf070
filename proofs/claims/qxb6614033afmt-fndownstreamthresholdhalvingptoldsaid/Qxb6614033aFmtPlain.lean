/-
  Plain mathematics on the th text: the th text of a 56-bit number, and that byte order of two such texts is the order of the numbers. No Go in sight.
-/
namespace Go.Proofs.Qxb6614033aFmt

/-- The character of a hex digit. -/
def dig (x : Int) : Int := if x < 10 then 48 + x else 87 + x
/-- The k high digits of the n low hex digits of v. -/
def hexs (v : Int) (n : Nat) : Nat → List Int
  | 0 => []
  | k + 1 => hexs v n k ++ [dig (v / 2 ^ (4 * (n - 1 - k)) % 16)]

theorem hexs_length (v : Int) (n k : Nat) : (hexs v n k).length = k := by
  induction k with
  | zero => rfl
  | succ k ih => simp [hexs, ih]

theorem hexs_get (v : Int) (n k j : Nat) (h : j < k) : (hexs v n k)[j]? = some (dig (v / 2 ^ (4 * (n - 1 - j)) % 16)) := by
  induction k with
  | zero => omega
  | succ k ih =>
    by_cases e : j = k
    · subst e
      have hl := hexs_length v n j
      rw [hexs, List.getElem?_append_right (by omega)]
      simp [hl]
    · have hl := hexs_length v n k
      rw [hexs, List.getElem?_append_left (by omega)]
      exact ih (by omega)

theorem dig_bd (x : Int) (h0 : 0 ≤ x) (h1 : x < 16) : 48 ≤ dig x ∧ dig x ≤ 102 := by
  unfold dig; split <;> omega

theorem dig_lt (x y : Int) (h0 : 0 ≤ x) (h1 : y < 16) : dig x < dig y ↔ x < y := by
  unfold dig; split <;> split <;> omega

/-- The j-th of the 14 hex digits of t. -/
def D (t : Int) (j : Nat) : Int := t / 2 ^ (4 * (13 - j)) % 16
/-- What the first i of the 14 hex digits of t say. -/
def P (t : Int) (i : Nat) : Int := t / 2 ^ (4 * (14 - i))

theorem D_bd (t : Int) (j : Nat) : 0 ≤ D t j ∧ D t j < 16 := by unfold D; omega

theorem pow4 (a : Nat) : (2 : Int) ^ (4 * (a + 1)) = 2 ^ (4 * a) * 16 := by
  rw [show 4 * (a + 1) = 4 * a + 4 from by omega, Int.pow_add]; rfl

theorem pow_pos' (a : Nat) : (0 : Int) < 2 ^ a := Int.pow_pos (by omega)

theorem P_succ (t : Int) (i : Nat) (h : i < 14) : P t (i + 1) = 16 * P t i + D t i := by
  unfold P D
  rw [show 14 - (i + 1) = 13 - i from by omega, show 14 - i = (13 - i) + 1 from by omega, pow4, ← Int.ediv_ediv_of_nonneg (Int.le_of_lt (pow_pos' _))]
  omega

theorem P_lt (r t : Int) (i : Nat) (h : P r i < P t i) : r < t := by
  by_cases k : r < t
  · exact k
  · have k : t ≤ r := by omega
    have := Int.ediv_le_ediv (pow_pos' (4 * (14 - i))) k
    unfold P at h; omega

theorem P_all (t : Int) : P t 14 = t := by unfold P; simp

theorem P_zero (t : Int) (h0 : 0 ≤ t) (h1 : t ≤ 72057594037927935) : P t 0 = 0 := by
  unfold P
  have : (2 : Int) ^ (4 * (14 - 0)) = 72057594037927936 := by decide
  rw [this]; omega

/-- L is the th text of t. -/
def Txt (t : Int) (L : List Int) : Prop :=
  ∃ n, 1 ≤ n ∧ n ≤ 14 ∧ L.length = n ∧ (∀ j, j < n → L[j]? = some (dig (D t j))) ∧ t % 2 ^ (4 * (14 - n)) = 0 ∧ (n = 1 ∨ D t (n - 1) ≠ 0)

theorem txt_zero : Txt 0 [48] := ⟨1, by omega, by omega, rfl, fun j hj => by
  obtain rfl : j = 0 := by omega
  rfl, by simp, .inl rfl⟩

theorem txt_hexs (t : Int) (k : Nat) (hk : k ≤ 13) (hm : t % 2 ^ (4 * k) = 0) (hd : t / 2 ^ (4 * k) % 16 ≠ 0) : Txt t (hexs (t / 2 ^ (4 * k)) (14 - k) (14 - k)) := by
  refine ⟨14 - k, by omega, by omega, hexs_length _ _ _, fun j hj => ?_, by rw [show 14 - (14 - k) = k from by omega]; exact hm, .inr ?_⟩
  · rw [hexs_get _ _ _ _ hj]
    unfold D
    rw [Int.ediv_ediv_of_nonneg (Int.le_of_lt (pow_pos' _)), ← Int.pow_add, show 4 * k + 4 * (14 - k - 1 - j) = 4 * (13 - j) from by omega]
  · unfold D
    rw [show 13 - (14 - k - 1) = k from by omega]; exact hd

end Go.Proofs.Qxb6614033aFmt
