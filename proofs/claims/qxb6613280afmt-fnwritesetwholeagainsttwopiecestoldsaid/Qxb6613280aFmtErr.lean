/-
  fmt.Errorf at the two formats of this program, and 'errorAt', by contracts: an error that is not nil comes back, whatever stands for fmt's text. 3: int; 9: string; 30: error; 67: []interface{}; 70: *fmt.wrapError; 78: *errors.errorString (80: its struct).
-/
import Derived.Test.Qxb6613280aFmtBuild
import Derived.Stop.CallBack
import Derived.Stop.IfaceNil
import GoSem.ClaimData
namespace Go.Proofs
open Go.Extern.Stop Go.Stop Go.Extern

theorem Tryf.call38 (args : Array Value) (w : World) : (callFunc 38 args).run Tryf.prog w = (FmtCalls.errorf #[9, 67] #[30] args).run Tryf.prog w :=
  run_callFunc_next Tryf.func38 (by kernel_rfl) (by kernel_rfl) (by kernel_rfl) args w
theorem Tryf.guard (name : String) (w : World) : (FmtStop.guard name).run Tryf.prog w = .ok () w := by kernel_rfl
theorem Tryf.nextTurns : Extern.next FmtCalls.turnsRow = some (FmtCalls.begun #[] #[]) := by kernel_rfl

def Tryf.litA : ByteArray := ⟨([99, 108, 97, 115, 115, 101, 115, 44, 32, 101, 115, 99, 97, 112, 101, 115, 32, 97, 110, 100, 32, 100, 111, 116, 115, 32, 116, 104, 97, 116, 32, 99, 111, 109, 101, 32, 116, 111, 32, 109, 111, 114, 101, 32, 116].append [104, 97, 110, 32, 37, 100, 32, 114, 97, 110, 103, 101, 115, 32, 111, 102, 32, 99, 111, 100, 101, 32, 112, 111, 105, 110, 116, 115, 32, 97, 114, 101, 32, 110, 111, 116, 32, 115, 117, 112, 112, 111, 114, 116, 101, 100]).toArray⟩
def Tryf.litB : ByteArray := ⟨([97, 32, 112, 97, 116, 116, 101, 114, 110, 32, 116, 104, 97, 116, 32, 116, 97, 107, 101, 115, 32, 109, 111, 114, 101, 32, 116, 104, 97, 110, 32, 37, 100, 32, 77, 105, 66, 32, 116, 111, 32, 99, 111, 109, 112].append [105, 108, 101, 44, 32, 105, 116, 115, 32, 114, 101, 112, 101, 97, 116, 115, 32, 119, 114, 105, 116, 116, 101, 110, 32, 111, 117, 116, 44, 32, 105, 115, 32, 110, 111, 116, 32, 115, 117, 112, 112, 111, 114, 116, 101, 100]).toArray⟩
def Tryf.tail : ByteArray := ⟨#[32, 40, 99, 104, 97, 114, 97, 99, 116, 101, 114, 32, 37, 100, 41]⟩
/-- A format with two %d and nothing else that asks for an operand. -/
def Tryf.Two (f : ByteArray) : Prop := FmtStop.printed? f 2 = some [(0, 100, false), (1, 100, false)] ∧ ∀ w : World, (FmtDoors.printed f 2).run Tryf.prog w = .ok [(0, 100, false), (1, 100, false)] w
theorem Tryf.twoA : Tryf.Two (Tryf.litA ++ Tryf.tail) := ⟨by kernel_rfl, fun w => by kernel_rfl⟩
theorem Tryf.twoB : Tryf.Two (Tryf.litB ++ Tryf.tail) := ⟨by kernel_rfl, fun w => by kernel_rfl⟩

def Tryf.shape3 : List UInt8 := [5, 3, 0, 0, 0, 0, 0, 0, 0, 105, 110, 116]
theorem Tryf.act3_100w (name : String) (x : Value) (w : World) : (FmtCalls.act name true 100 false (.iface 3 x)).run Tryf.prog w = .ok (.closed true) w := by kernel_rfl
theorem Tryf.op3_100w (name : String) (x : Int) (w : World) : (FmtStop.operand name true 100 false (.iface 3 (.int .i64 x))).run Tryf.prog w = .ok (Tryf.shape3, Go.Extern.Stop.digits 8 (x % 2 ^ 64).toNat) w := by kernel_rfl
theorem Tryf.str3 (w : World) : (typeStr 3).run Tryf.prog w = .ok "int" w := by kernel_rfl
theorem Tryf.ptr78 (w : World) : (FmtStop.ptrTo "errors.errorString").run Tryf.prog w = .ok 78 w := by kernel_rfl
theorem Tryf.elem78 (w : World) : (elemOf 78).run Tryf.prog w = .ok 80 w := by kernel_rfl
theorem Tryf.isError78 (w : World) : (FmtDoors.textMethod 78 "Error").run Tryf.prog w = .ok true w := by kernel_rfl
theorem Tryf.ptr70 (w : World) : (FmtStop.ptrTo "fmt.wrapError").run Tryf.prog w = .ok 70 w := by kernel_rfl
theorem Tryf.elem70 (w : World) : (elemOf 70).run Tryf.prog w = .ok 108 w := by kernel_rfl
theorem Tryf.isError70 (w : World) : (FmtDoors.textMethod 70 "Error").run Tryf.prog w = .ok true w := by kernel_rfl
end Go.Proofs
namespace Go.Proofs.Qxb6613280aFmt
open Go.RowKit Go.Extern.Stop Go.Stop Go.Extern
attribute [local go_sem] Tryf.call38 Tryf.guard Tryf.act3_100w Tryf.op3_100w Tryf.str3 Tryf.ptr78 Tryf.elem78 Tryf.isError78 Tryf.ptr70 Tryf.elem70 Tryf.isError70

set_option maxHeartbeats 800000 in
theorem errorf_two (F : Interp) (f : ByteArray) (hf : Tryf.Two f) (x y : Int) (b : Nat) (cap : Nat) (w : World) (hF : F.answers w.tape)
    (h0 : w.cell? ⟨b, 0, none⟩ = some (.iface 3 (.int .i64 x))) (h1 : w.cell? ⟨b, 1, none⟩ = some (.iface 3 (.int .i64 y))) :
    Calls Tryf.prog 36 #[.string f, .slice (some ⟨b, 0, none⟩) 2 cap] w fun e w' =>
      (∃ p, e = .returned (.iface 78 p)) ∧ Below w.heap.size w w' := by
  have hF' := answers_open hF
  have f1 := hf.1
  have f2 := hf.2
  go_enter Tryf.func36, Tryf.ntmps36
  go_wp2
  apply rows_value Tryf.nextTurns
  case hr =>
    go_simp
    exact ⟨rfl, rfl⟩
  case h =>
    go_wp2
    go_ret
    exact ⟨⟨_, rfl⟩, ((Below.refl _ _).alloc (Nat.le_refl _) _).drew⟩

theorem info20 : (Tryf.prog.info? 20).map (fun i => (i.zero, i.size, i.bytes)) = some (some .nilIface, 1, 16) := by kernel_rfl

set_option maxHeartbeats 800000 in
set_option maxRecDepth 100000 in
theorem errorAt_any (F : Interp) (p : Value) (s : ByteArray) (hf : Tryf.Two (s ++ Tryf.tail)) (hs : s.size ≤ 1000) (x pos : Int) (a : Nat) (w : World) (hF : F.answers w.tape)
    (ha : w.heap[a]? = some (.cells #[.iface 3 (.int .i64 x)] 20 (0, 0))) :
    Calls Tryf.prog 28 #[p, .int .i64 pos, .string s, .slice (some ⟨a, 0, none⟩) 1 1] w fun e w' =>
      (∃ q, e = .returned (.iface 78 q)) ∧ Keeps (fun k => k = a) w w' := by
  obtain ⟨i0, hi, hz0, hz1, hz2⟩ := info_parts info20
  have hown : w.ownsRow a 20 1 (.slice (some ⟨a, 0, none⟩) 1 1) 1 [.iface 3 (.int .i64 x)] :=
    ⟨rfl, .inr ⟨a, 1, #[.iface 3 (.int .i64 x)], rfl, Nat.le_refl _, ha, Nat.le_refl _, by unfold maxLen; omega, rfl, rfl⟩⟩
  have hlt := Keeps.lt ha
  have hs' : ¬ 9223372036854775807 < s.size + 15 := by omega
  clear ha
  go_enter Tryf.func28, Tryf.ntmps28
  go_wp2_with (at_builtin; refine wpList_append_own _ rfl _ _ 67 rfl a 20 i0 .nilIface 1 16 Tryf.underlying67 hi hz0 hz1 hz2 rfl (by decide) _ _ _ rfl (hown.alloc _) ⟨w.heap.size, 0, none⟩ 1 1 [.iface 3 (.int .i64 (wrap64 (pos + 1)))] rfl rfl ?c1 ?c2 ?c3 ?c4 ?c5 ?_)
  case c1 =>
    intro j u hj
    match j, hj with
    | 0, hj => simp at hj; subst hj; simp [Addr.add]
  case c2 => intro u hu; simp at hu; subst hu; rfl
  case c3 => unfold maxLen; omega
  case c4 => omega
  case c5 => simp; omega
  intro v' w2 hown' hgrow _
  have kp : Keeps (fun k => k = a) w w2 := ((Keeps.refl _ w).alloc _).grown hgrow (fun k hk => by simp [Value.ownBlock] at hk; exact hk.symm)
  obtain ⟨g, cap, cur, rfl, hbg, hg, hnc, hcm, hcs, htake⟩ : ∃ g cap cur, v' = .slice (some ⟨g, 0, none⟩) 2 cap ∧ a ≤ g ∧ w2.heap[g]? = some (.cells cur 20 (0, 0)) ∧ 2 ≤ cap ∧ cap ≤ maxLen ∧ cur.size = cap * 1 ∧ cur.toList.take (2 * 1) = [.iface 3 (.int .i64 x)] ++ [.iface 3 (.int .i64 (wrap64 (pos + 1)))] := by
    rcases hown'.2 with ⟨_, hz⟩ | ⟨g, cap, cur, hv, r⟩
    · omega
    · exact ⟨g, cap, cur, hv, r⟩
  have q0 : w2.cell? ⟨g, 0, none⟩ = some (.iface 3 (.int .i64 x)) := hown'.cells (g := g) rfl 0 _ rfl
  have q1 : w2.cell? ⟨g, 1, none⟩ = some (.iface 3 (.int .i64 (wrap64 (pos + 1)))) := hown'.cells (g := g) rfl 1 _ rfl
  go_wp2_with fail
  refine (errorf_two F (s ++ Tryf.tail) hf x (wrap64 (pos + 1)) g cap w2 (by rw [kp.tape]; exact hF) q0 q1).mono ?_
  rintro e w3 ⟨⟨q, rfl⟩, hb⟩
  go_wp2
  go_ret
  exact ⟨⟨q, rfl⟩, kp.trans (Keeps.of_below hb)⟩

end Go.Proofs.Qxb6613280aFmt
