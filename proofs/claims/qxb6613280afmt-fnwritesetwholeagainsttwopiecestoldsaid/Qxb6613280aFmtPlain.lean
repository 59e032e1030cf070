/-
  Plain functions: hex digits, and the Go text of a set of ranges. No Go in sight.
-/
namespace Go.Proofs.Qxb6613280aFmt

/-- The character of a hex digit. -/
def dig (x : Int) : Int := if x < 10 then 48 + x else 87 + x
/-- The hex digits of u, at most f + 1 of them. -/
def hexF : Nat → Int → List Int
  | 0, u => [dig u]
  | f + 1, u => if u < 16 then [dig u] else hexF f (u / 16) ++ [dig (u % 16)]

theorem hexF_one (f : Nat) (u : Int) (h : u < 16) : hexF f u = [dig u] := by
  cases f with
  | zero => rfl
  | succ f => rw [hexF, if_pos h]

theorem hexF_len (f : Nat) : ∀ u, 1 ≤ (hexF f u).length ∧ (hexF f u).length ≤ f + 1 := by
  induction f with
  | zero => intro u; simp [hexF]
  | succ f ih =>
    intro u
    rw [hexF]
    split
    · simp
    · have := ih (u / 16)
      simp; omega

theorem dig_bd (x : Int) (h0 : 0 ≤ x) (h1 : x < 16) : 48 ≤ dig x ∧ dig x ≤ 102 := by
  unfold dig; split <;> omega

/-- strconv.FormatInt(c, 16). -/
def fmt16 (c : Int) : List Int := if c < 0 then 45 :: hexF 8 (-c) else hexF 8 c

theorem fmt16_len (c : Int) : 1 ≤ (fmt16 c).length ∧ (fmt16 c).length ≤ 10 := by
  unfold fmt16
  split
  · have := hexF_len 8 (-c); simp; omega
  · have := hexF_len 8 c; omega

/-- Is c an ASCII letter or digit? -/
def plainC (c : Int) : Bool := (97 ≤ c && c ≤ 122) || (65 ≤ c && c ≤ 90) || (48 ≤ c && c ≤ 57)

/-- runeSyntax(c). -/
def rsyn (c : Int) : List UInt8 := if plainC c then [UInt8.ofNat c.toNat] else [92, 120, 123] ++ (fmt16 c).map (fun n => UInt8.ofNat n.toNat) ++ [125]

theorem rsyn_len (c : Int) : 1 ≤ (rsyn c).length ∧ (rsyn c).length ≤ 14 := by
  unfold rsyn
  split
  · simp
  · have := fmt16_len c; simp; omega

/-- What one range adds. -/
def one (z : Int × Int) : List UInt8 := rsyn z.1 ++ (if z.2 = z.1 then [] else 45 :: rsyn z.2)

theorem one_len (z : Int × Int) : (one z).length ≤ 29 := by
  unfold one
  have h1 := rsyn_len z.1
  have h2 := rsyn_len z.2
  split
  · simp; omega
  · simp; omega

def body : List (Int × Int) → List UInt8
  | [] => []
  | z :: zs => one z ++ body zs

theorem body_len (zs : List (Int × Int)) : (body zs).length ≤ 29 * zs.length := by
  induction zs with
  | nil => simp [body]
  | cons z zs ih => have := one_len z; simp [body]; omega

theorem body_append (a b : List (Int × Int)) : body (a ++ b) = body a ++ body b := by
  induction a with
  | nil => rfl
  | cons z a ih => simp [body, ih]

/-- The Go text of a whole set. -/
def syn : List (Int × Int) → List UInt8
  | [] => [91, 94, 92, 120, 48, 48, 45, 92, 120, 123, 49, 48, 102, 102, 102, 102, 125, 93]
  | [z] => if z.1 = z.2 then rsyn z.1 else [91] ++ body [z] ++ [93]
  | zs => [91] ++ body zs ++ [93]

theorem syn_len (zs : List (Int × Int)) : 1 ≤ (syn zs).length ∧ (syn zs).length ≤ 29 * zs.length + 20 := by
  match zs with
  | [] => simp [syn]
  | [z] =>
    have h := rsyn_len z.1
    have hb := body_len [z]
    simp only [syn]
    simp only [List.length_cons, List.length_nil] at hb ⊢
    split
    · omega
    · simp only [List.length_append, List.length_cons, List.length_nil]; omega
  | z1 :: z2 :: zs =>
    have hb := body_len (z1 :: z2 :: zs)
    simp only [syn, List.length_append, List.length_cons, List.length_nil] at hb ⊢
    omega

end Go.Proofs.Qxb6613280aFmt
