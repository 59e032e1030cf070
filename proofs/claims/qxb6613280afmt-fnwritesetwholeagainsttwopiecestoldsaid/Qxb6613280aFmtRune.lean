/-
  isASCIILetter, isDigit, runeSyntax, by contracts.
-/
import Derived.Test.Qxb6613280aFmtHexf
namespace Go.Proofs.Qxb6613280aFmt
open Go.RowKit

theorem letter_low (c : Int) (w : World) (h : 97 ≤ c ∧ c ≤ 122) : Calls Tryf.prog 32 #[.int .i32 c] w fun e w' => e = .returned (.bool true) ∧ w' = w := by
  obtain ⟨h1, h2⟩ := h
  have d1 : decide (97 ≤ c) = true := decide_eq_true h1
  have d2 : decide (c ≤ 122) = true := decide_eq_true h2
  go_enter Tryf.func32, Tryf.ntmps32
  go_wp2
  go_ret
  exact ⟨rfl, rfl⟩

theorem letter_up (c : Int) (w : World) (h : 65 ≤ c ∧ c ≤ 90) : Calls Tryf.prog 32 #[.int .i32 c] w fun e w' => e = .returned (.bool true) ∧ w' = w := by
  obtain ⟨h1, h2⟩ := h
  have d1 : decide (97 ≤ c) = false := decide_eq_false (by omega)
  have d3 : decide (65 ≤ c) = true := decide_eq_true h1
  have d4 : decide (c ≤ 90) = true := decide_eq_true h2
  go_enter Tryf.func32, Tryf.ntmps32
  go_wp2
  go_ret
  exact ⟨rfl, rfl⟩

theorem letter_no (c : Int) (w : World) (h1 : ¬ (97 ≤ c ∧ c ≤ 122)) (h2 : ¬ (65 ≤ c ∧ c ≤ 90)) : Calls Tryf.prog 32 #[.int .i32 c] w fun e w' => e = .returned (.bool false) ∧ w' = w := by
  by_cases a1 : 97 ≤ c
  · have d1 : decide (97 ≤ c) = true := decide_eq_true a1
    have d2 : decide (c ≤ 122) = false := decide_eq_false (by omega)
    have d3 : decide (65 ≤ c) = true := decide_eq_true (by omega)
    have d4 : decide (c ≤ 90) = false := decide_eq_false (by omega)
    clear h1 h2
    go_enter Tryf.func32, Tryf.ntmps32
    go_wp2
    go_ret
    exact ⟨rfl, rfl⟩
  · have d1 : decide (97 ≤ c) = false := decide_eq_false a1
    by_cases a3 : 65 ≤ c
    · have d3 : decide (65 ≤ c) = true := decide_eq_true (by omega)
      have d4 : decide (c ≤ 90) = false := decide_eq_false (by omega)
      clear h1 h2
      go_enter Tryf.func32, Tryf.ntmps32
      go_wp2
      go_ret
      exact ⟨rfl, rfl⟩
    · have d3 : decide (65 ≤ c) = false := decide_eq_false a3
      clear h1 h2
      go_enter Tryf.func32, Tryf.ntmps32
      go_wp2
      go_ret
      exact ⟨rfl, rfl⟩

theorem digit_yes (c : Int) (w : World) (h : 48 ≤ c ∧ c ≤ 57) : Calls Tryf.prog 33 #[.int .i32 c] w fun e w' => e = .returned (.bool true) ∧ w' = w := by
  obtain ⟨h1, h2⟩ := h
  have d1 : decide (48 ≤ c) = true := decide_eq_true h1
  have d2 : decide (c ≤ 57) = true := decide_eq_true h2
  go_enter Tryf.func33, Tryf.ntmps33
  go_wp2
  go_ret
  exact ⟨rfl, rfl⟩
theorem digit_no (c : Int) (w : World) (h : ¬ (48 ≤ c ∧ c ≤ 57)) : Calls Tryf.prog 33 #[.int .i32 c] w fun e w' => e = .returned (.bool false) ∧ w' = w := by
  by_cases a1 : 48 ≤ c
  · have d1 : decide (48 ≤ c) = true := decide_eq_true a1
    have d2 : decide (c ≤ 57) = false := decide_eq_false (by omega)
    clear h
    go_enter Tryf.func33, Tryf.ntmps33
    go_wp2
    go_ret
    exact ⟨rfl, rfl⟩
  · have d1 : decide (48 ≤ c) = false := decide_eq_false a1
    clear h
    go_enter Tryf.func33, Tryf.ntmps33
    go_wp2
    go_ret
    exact ⟨rfl, rfl⟩

theorem encode_plain (c : Int) (h : plainC c = true) : Utf8.encode c = ⟨(rsyn c).toArray⟩ := by
  have hb : 48 ≤ c ∧ c ≤ 122 := by
    unfold plainC at h
    simp at h
    omega
  have e : rsyn c = [UInt8.ofNat c.toNat] := by unfold rsyn; rw [if_pos h]
  rw [e]
  unfold Utf8.encode
  have hv : Utf8.valid c = true := by
    simp [Utf8.valid]
    omega
  simp [hv]
  intro h
  omega

theorem plain_of (c : Int) (h : (97 ≤ c ∧ c ≤ 122) ∨ (65 ≤ c ∧ c ≤ 90) ∨ (48 ≤ c ∧ c ≤ 57)) : plainC c = true := by
  unfold plainC
  simp
  omega
theorem plain_not (c : Int) (h1 : ¬ (97 ≤ c ∧ c ≤ 122)) (h2 : ¬ (65 ≤ c ∧ c ≤ 90)) (h3 : ¬ (48 ≤ c ∧ c ≤ 57)) : plainC c = false := by
  cases h : plainC c
  · rfl
  · exfalso
    unfold plainC at h
    simp at h
    omega

theorem other_text (c : Int) (h : plainC c = false) : (⟨#[92, 120, 123]⟩ : ByteArray) ++ strOfNums (fmt16 c) ++ ⟨#[125]⟩ = ⟨(rsyn c).toArray⟩ := by
  have e : rsyn c = [92, 120, 123] ++ (fmt16 c).map (fun n => UInt8.ofNat n.toNat) ++ [125] := by
    unfold rsyn; rw [if_neg (by rw [h]; decide)]
  rw [e]
  have := ByteArray.mk_append_mk [92, 120, 123] ((fmt16 c).map fun n => UInt8.ofNat n.toNat)
  have h2 := ByteArray.mk_append_mk ([92, 120, 123] ++ (fmt16 c).map fun n => UInt8.ofNat n.toNat) [125]
  unfold strOfNums
  rw [← h2, ← this]

theorem ret_st {a b : ByteArray} (h : a = b) : Ending.returned (.string a) = .returned (.string b) := by rw [h]

set_option maxHeartbeats 400000 in
theorem rune_low (c : Int) (w : World) (h : 97 ≤ c ∧ c ≤ 122) : Calls Tryf.prog 25 #[.int .i32 c] w fun e w' => e = .returned (.string ⟨(rsyn c).toArray⟩) ∧ Below w.heap.size w w' := by
  have d1 : decide (c < 128) = true := decide_eq_true (by omega)
  have HE : Hid (Utf8.encode c = ⟨(rsyn c).toArray⟩) := encode_plain c (plain_of c (by omega))
  go_enter Tryf.func25, Tryf.ntmps25
  go_wp2_with fail
  refine (letter_low c _ h).mono ?_
  rintro e w' ⟨rfl, rfl⟩
  go_wp2
  go_ret
  exact ⟨ret_st HE.out, Below.refl _ _⟩

set_option maxHeartbeats 400000 in
theorem rune_up (c : Int) (w : World) (h : 65 ≤ c ∧ c ≤ 90) : Calls Tryf.prog 25 #[.int .i32 c] w fun e w' => e = .returned (.string ⟨(rsyn c).toArray⟩) ∧ Below w.heap.size w w' := by
  have d1 : decide (c < 128) = true := decide_eq_true (by omega)
  have HE : Hid (Utf8.encode c = ⟨(rsyn c).toArray⟩) := encode_plain c (plain_of c (by omega))
  go_enter Tryf.func25, Tryf.ntmps25
  go_wp2_with fail
  refine (letter_up c _ h).mono ?_
  rintro e w' ⟨rfl, rfl⟩
  go_wp2
  go_ret
  exact ⟨ret_st HE.out, Below.refl _ _⟩

set_option maxHeartbeats 400000 in
theorem rune_num (c : Int) (w : World) (h : 48 ≤ c ∧ c ≤ 57) : Calls Tryf.prog 25 #[.int .i32 c] w fun e w' => e = .returned (.string ⟨(rsyn c).toArray⟩) ∧ Below w.heap.size w w' := by
  have d1 : decide (c < 128) = true := decide_eq_true (by omega)
  have HE : Hid (Utf8.encode c = ⟨(rsyn c).toArray⟩) := encode_plain c (plain_of c (by omega))
  go_enter Tryf.func25, Tryf.ntmps25
  go_wp2_with fail
  refine (letter_no c _ (by omega) (by omega)).mono ?_
  rintro e w' ⟨rfl, rfl⟩
  go_wp2_with fail
  refine (digit_yes c _ h).mono ?_
  rintro e w' ⟨rfl, rfl⟩
  go_wp2
  go_ret
  exact ⟨ret_st HE.out, Below.refl _ _⟩

set_option maxHeartbeats 400000 in
theorem rune_odd (c : Int) (w : World) (ht : w.cell? ⟨2, 15, none⟩ = some (.int .u8 4)) (h0 : -2147483648 ≤ c) (h1 : c < 128) (n1 : ¬ (97 ≤ c ∧ c ≤ 122)) (n2 : ¬ (65 ≤ c ∧ c ≤ 90)) (n3 : ¬ (48 ≤ c ∧ c ≤ 57)) : Calls Tryf.prog 25 #[.int .i32 c] w fun e w' => e = .returned (.string ⟨(rsyn c).toArray⟩) ∧ Below w.heap.size w w' := by
  have d1 : decide (c < 128) = true := decide_eq_true (by omega)
  have HE : Hid ((⟨#[92, 120, 123]⟩ : ByteArray) ++ strOfNums (fmt16 c) ++ ⟨#[125]⟩ = ⟨(rsyn c).toArray⟩) := other_text c (plain_not c (by omega) (by omega) (by omega))
  have hsz : (strOfNums (fmt16 c)).size ≤ 10 := by rw [strOfNums_size]; exact (fmt16_len c).2
  go_enter Tryf.func25, Tryf.ntmps25
  go_wp2_with fail
  refine (letter_no c _ n1 n2).mono ?_
  rintro e w' ⟨rfl, rfl⟩
  go_wp2_with fail
  refine (digit_no c _ n3).mono ?_
  rintro e w' ⟨rfl, rfl⟩
  go_wp2_with fail
  refine (formatInt_any c _ ht (by omega) (by omega)).mono ?_
  rintro e w' ⟨rfl, hb⟩
  go_wp2
  go_ret
  exact ⟨ret_st HE.out, hb⟩

set_option maxHeartbeats 400000 in
theorem rune_hi (c : Int) (w : World) (ht : w.cell? ⟨2, 15, none⟩ = some (.int .u8 4)) (h0 : 128 ≤ c) (h1 : c ≤ 2147483647) : Calls Tryf.prog 25 #[.int .i32 c] w fun e w' => e = .returned (.string ⟨(rsyn c).toArray⟩) ∧ Below w.heap.size w w' := by
  have d1 : decide (c < 128) = false := decide_eq_false (by omega)
  have HE : Hid ((⟨#[92, 120, 123]⟩ : ByteArray) ++ strOfNums (fmt16 c) ++ ⟨#[125]⟩ = ⟨(rsyn c).toArray⟩) := other_text c (plain_not c (by omega) (by omega) (by omega))
  have hsz : (strOfNums (fmt16 c)).size ≤ 10 := by rw [strOfNums_size]; exact (fmt16_len c).2
  go_enter Tryf.func25, Tryf.ntmps25
  go_wp2_with fail
  refine (formatInt_any c _ ht (by omega) (by omega)).mono ?_
  rintro e w' ⟨rfl, hb⟩
  go_wp2
  go_ret
  exact ⟨ret_st HE.out, hb⟩

theorem rune_any (c : Int) (w : World) (ht : w.cell? ⟨2, 15, none⟩ = some (.int .u8 4)) (h0 : -2147483648 ≤ c) (h1 : c ≤ 2147483647) : Calls Tryf.prog 25 #[.int .i32 c] w fun e w' => e = .returned (.string ⟨(rsyn c).toArray⟩) ∧ Below w.heap.size w w' := by
  by_cases hh : 128 ≤ c
  · exact rune_hi c w ht hh h1
  by_cases n1 : 97 ≤ c ∧ c ≤ 122
  · exact rune_low c w n1
  by_cases n2 : 65 ≤ c ∧ c ≤ 90
  · exact rune_up c w n2
  by_cases n3 : 48 ≤ c ∧ c ≤ 57
  · exact rune_num c w n3
  exact rune_odd c w ht h0 (by omega) n1 n2 n3

end Go.Proofs.Qxb6613280aFmt
