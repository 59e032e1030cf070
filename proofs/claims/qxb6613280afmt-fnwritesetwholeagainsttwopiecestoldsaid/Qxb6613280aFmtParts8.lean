/-
  What the second law needs besides: zzBytes, zzBudgetParser, by contracts.
-/
import Derived.Test.Qxb6613280aFmtSet8
import Derived.Test.Qxb6613280aFmtSeven7
namespace Go.Proofs.Qxb6613280aFmt
open Go.ChangeShapes Go.WideShapes Go.ChangeAt Go.RowKit Go.Extern.Stop Go.Stop Go.Extern

set_option maxHeartbeats 800000 in
set_option maxRecDepth 100000 in
theorem zzBytes8 (r c : Int) (tr : Bool) (s : ByteArray) (pos k : Int) (a1 a2 : Option Addr) (n1 n2 c1 c2 : Nat) (w : World) :
    Calls Tryf.prog 5 #[.int .i64 r, .int .i64 c, .bool tr, .string s, .int .i64 pos, .slice a1 n1 c1, .slice a2 n2 c2, .int .i64 k] w fun e w' => (e = .returned (.bool true) ∨ e = .returned (.bool false)) ∧ w' = w := by
  generalize hs : s.size = m
  by_cases t0 : 1048576 < m
  · have t0' : (1048576 : Int) < m := by omega
    go_enter Tryf.func5, Tryf.ntmps5
    go_wp2
    go_ret
    first | exact ⟨.inl rfl, rfl⟩ | exact ⟨.inr rfl, rfl⟩
  have t0' : ¬ (1048576 : Int) < m := by omega
  by_cases t1 : 1048576 < n1
  · have t1' : (1048576 : Int) < n1 := by omega
    go_enter Tryf.func5, Tryf.ntmps5
    go_wp2
    go_ret
    first | exact ⟨.inl rfl, rfl⟩ | exact ⟨.inr rfl, rfl⟩
  have t1' : ¬ (1048576 : Int) < n1 := by omega
  by_cases t2 : 1048576 < m + n1
  · have t2' : (1048576 : Int) < m + n1 := by omega
    go_enter Tryf.func5, Tryf.ntmps5
    go_wp2
    go_ret
    first | exact ⟨.inl rfl, rfl⟩ | exact ⟨.inr rfl, rfl⟩
  have t2' : ¬ (1048576 : Int) < m + n1 := by omega
  by_cases t3 : 1048576 < n2
  · have t3' : (1048576 : Int) < n2 := by omega
    go_enter Tryf.func5, Tryf.ntmps5
    go_wp2
    go_ret
    first | exact ⟨.inl rfl, rfl⟩ | exact ⟨.inr rfl, rfl⟩
  have t3' : ¬ (1048576 : Int) < n2 := by omega
  by_cases t4 : 1048576 < m + n1 + n2
  · have t4' : (1048576 : Int) < m + n1 + n2 := by omega
    go_enter Tryf.func5, Tryf.ntmps5
    go_wp2
    go_ret
    first | exact ⟨.inl rfl, rfl⟩ | exact ⟨.inr rfl, rfl⟩
  have t4' : ¬ (1048576 : Int) < m + n1 + n2 := by omega
  go_enter Tryf.func5, Tryf.ntmps5
  go_wp2
  go_ret
  first | exact ⟨.inl rfl, rfl⟩ | exact ⟨.inr rfl, rfl⟩

set_option maxHeartbeats 800000 in
set_option maxRecDepth 100000 in
theorem budget_off (r c : Int) (l : List UInt8) (w : World) (hl : l.length ≤ 1000000000) :
    Calls Tryf.prog 7 #[.int .i64 r, .int .i64 c, .bool false, .string ⟨l.toArray⟩] w fun e w' => ∃ P, e = .returned (.pointer (some ⟨P, 0, none⟩)) ∧ w.heap.size ≤ P ∧ Par P (.pointer none) r c w' ∧ Below w.heap.size w w' := by
  have Q := zzNewBuilder l w hl
  generalize (⟨l.toArray⟩ : ByteArray) = st at Q ⊢
  go_enter Tryf.func7, Tryf.ntmps7
  go_wp2_with fail
  refine Q.mono ?_
  rintro e w1 ⟨rfl, p, v, hb, hbel1⟩
  go_wp2_with fail
  refine (zzNewParser none w1).mono ?_
  rintro e w2 ⟨P, rfl, hP, hpar, hbel2⟩
  have h12 := hbel1.trans (hbel2.mono hbel1.size)
  go_wp2_with fail
  refine (zzSetBudget P _ _ _ r c w2 hpar).mono ?_
  rintro e w3 ⟨rfl, hpar3, k3⟩
  have h13 : Below w.heap.size w w3 := h12.trans (k3.below h12.size (by rintro k rfl; exact Nat.le_trans hbel1.size hP))
  go_wp2
  go_ret
  exact ⟨P, rfl, Nat.le_trans hbel1.size hP, hpar3, h13⟩

set_option maxHeartbeats 800000 in
set_option maxRecDepth 100000 in
theorem budget_on (r c : Int) (l : List UInt8) (w : World) (hl : l.length ≤ 1000000000) :
    Calls Tryf.prog 7 #[.int .i64 r, .int .i64 c, .bool true, .string ⟨l.toArray⟩] w fun e w' => ∃ P p v, e = .returned (.pointer (some ⟨P, 0, none⟩)) ∧ w.heap.size < P ∧ P < w'.heap.size ∧ Par P (.pointer (some ⟨w.heap.size, 0, none⟩)) r c w' ∧ Bld w.heap.size w.heap.size p v l w' ∧ Below w.heap.size w w' := by
  have Q := zzNewBuilder l w hl
  generalize hst : (⟨l.toArray⟩ : ByteArray) = st at Q ⊢
  clear hst
  go_enter Tryf.func7, Tryf.ntmps7
  go_wp2_with fail
  refine Q.mono ?_
  rintro e w1 ⟨rfl, p, v, hb, hbel1⟩
  have hlt := Keeps.lt hb.heap
  go_wp2_with fail
  refine (zzNewParser (some ⟨w.heap.size, 0, none⟩) w1).mono ?_
  rintro e w2 ⟨P, rfl, hP, hpar, hbel2⟩
  have h12 := hbel1.trans (hbel2.mono hbel1.size)
  have hb2 := hb.kept (Keeps.of_below (S := fun _ => False) hbel2) (fun h => h) (fun _ _ h => h)
  have hne := hpar.ne hb2
  go_wp2_with fail
  refine (zzSetBudget P _ _ _ r c w2 hpar).mono ?_
  rintro e w3 ⟨rfl, hpar3, k3⟩
  have h13 : Below w.heap.size w w3 := h12.trans (k3.below h12.size (by rintro k rfl; exact Nat.le_trans hbel1.size hP))
  have hb3 := hb2.kept k3 (fun e => hne (.inl e.symm)) (fun k hk e => hne (.inr (by rw [← e]; exact hk)))
  go_wp2
  go_ret
  exact ⟨P, p, v, rfl, by omega, hpar3.lt, hpar3, hb3, h13⟩

end Go.Proofs.Qxb6613280aFmt
