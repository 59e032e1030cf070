/-
  THE CLOSED FACTS FOR A WALK OVER fmt.errorf's STOP, at this dump's numbers (after the guide's NameFmt texts). 20: interface{}; 22: uint64; 23: float64; 24: fairdraw.Threshold; 26: error; 46: []interface{}; 48: *fmt.wrapError (84: its struct); 53: *errors.errorString (55: its struct).
-/
import Derived.Test.Qxb6614033aFmtRows
import Derived.Stop.CallBack
import Derived.Stop.IfaceNil
import GoSem.ClaimData
namespace Go.Proofs
open Go.Extern.Stop Go.Stop Go.Extern

/-- The name of the dynamic type that the listed datum bears. -/
def Tryf.nameOf : DataW Unit → String
  | .iface n _ => n
  | _ => ""
def Tryf.errName : String := Tryf.nameOf Qxb6614033aFmt.Rows.laid_example_com_fairdraw_fairdraw_ErrProbabilityTooSmall

theorem Tryf.call21 (args : Array Value) (w : World) : (callFunc 21 args).run Tryf.prog w = (FmtCalls.errorf #[9, 46] #[26] args).run Tryf.prog w :=
  run_callFunc_next Tryf.func21 (by kernel_rfl) (by kernel_rfl) (by kernel_rfl) args w
theorem Tryf.guard (name : String) (w : World) : (FmtStop.guard name).run Tryf.prog w = .ok () w := by kernel_rfl
theorem Tryf.nextTurns : Extern.next FmtCalls.turnsRow = some (FmtCalls.begun #[] #[]) := by kernel_rfl
theorem Tryf.nextReturned : Extern.next FmtCalls.returnedRow = some (FmtCalls.returned #[] #[]) := by kernel_rfl

-- "%w: threshold %#x", 2 operands
theorem Tryf.fmtA : FmtStop.printed? ⟨#[37, 119, 58, 32, 116, 104, 114, 101, 115, 104, 111, 108, 100, 32, 37, 35, 120]⟩ 2 = some [(0, 119, false), (1, 120, true)] := by kernel_rfl
theorem Tryf.fmtAr (w : World) : (FmtDoors.printed ⟨#[37, 119, 58, 32, 116, 104, 114, 101, 115, 104, 111, 108, 100, 32, 37, 35, 120]⟩ 2).run Tryf.prog w = .ok [(0, 119, false), (1, 120, true)] w := by kernel_rfl
-- "%w: %v", 2 operands
theorem Tryf.fmtB : FmtStop.printed? ⟨#[37, 119, 58, 32, 37, 118]⟩ 2 = some [(0, 119, false), (1, 118, false)] := by kernel_rfl
theorem Tryf.fmtBr (w : World) : (FmtDoors.printed ⟨#[37, 119, 58, 32, 37, 118]⟩ 2).run Tryf.prog w = .ok [(0, 119, false), (1, 118, false)] w := by kernel_rfl
-- "%w: %v times the probability of threshold %v", 3 operands
theorem Tryf.fmtC : FmtStop.printed? ⟨#[37, 119, 58, 32, 37, 118, 32, 116, 105, 109, 101, 115, 32, 116, 104, 101, 32, 112, 114, 111, 98, 97, 98, 105, 108, 105, 116, 121, 32, 111, 102, 32, 116, 104, 114, 101, 115, 104, 111, 108, 100, 32, 37, 118]⟩ 3 = some [(0, 119, false), (1, 118, false), (2, 118, false)] := by kernel_rfl
theorem Tryf.fmtCr (w : World) : (FmtDoors.printed ⟨#[37, 119, 58, 32, 37, 118, 32, 116, 105, 109, 101, 115, 32, 116, 104, 101, 32, 112, 114, 111, 98, 97, 98, 105, 108, 105, 116, 121, 32, 111, 102, 32, 116, 104, 114, 101, 115, 104, 111, 108, 100, 32, 37, 118]⟩ 3).run Tryf.prog w = .ok [(0, 119, false), (1, 118, false), (2, 118, false)] w := by kernel_rfl

-- 22: uint64
theorem Tryf.name22 : Tryf.prog.typeName? 3 22 = some "uint64" := by kernel_rfl
def Tryf.shape22 : List UInt8 := [9, 6, 0, 0, 0, 0, 0, 0, 0, 117, 105, 110, 116, 54, 52]
theorem Tryf.act22_120sw (name : String) (x : Value) (w : World) : (FmtCalls.act name true 120 true (.iface 22 x)).run Tryf.prog w = .ok (.closed true) w := by kernel_rfl
theorem Tryf.op22_120sw (name : String) (x : Int) (w : World) : (FmtStop.operand name true 120 true (.iface 22 (.int .u64 x))).run Tryf.prog w = .ok (Tryf.shape22, Go.Extern.Stop.digits 8 (x % 2 ^ 64).toNat) w := by kernel_rfl
theorem Tryf.str22 (w : World) : (typeStr 22).run Tryf.prog w = .ok "uint64" w := by kernel_rfl
-- 23: float64
def Tryf.shape23 : List UInt8 := [11, 7, 0, 0, 0, 0, 0, 0, 0, 102, 108, 111, 97, 116, 54, 52]
theorem Tryf.act23_118w (name : String) (x : Value) (w : World) : (FmtCalls.act name true 118 false (.iface 23 x)).run Tryf.prog w = .ok (.closed true) w := by kernel_rfl
theorem Tryf.op23_118w (name : String) (x : Nat) (w : World) : (FmtStop.operand name true 118 false (.iface 23 (.float .f64 x))).run Tryf.prog w = .ok (Tryf.shape23, Go.Extern.Stop.digits 8 x) w := by kernel_rfl
theorem Tryf.str23 (w : World) : (typeStr 23).run Tryf.prog w = .ok "float64" w := by kernel_rfl
-- 24: fairdraw.Threshold
theorem Tryf.act24_118w (name : String) (x : Value) (w : World) : (FmtCalls.act name true 118 false (.iface 24 x)).run Tryf.prog w = .ok (.call false) w := by kernel_rfl
theorem Tryf.isString24 (w : World) : (FmtDoors.textMethod 24 "String").run Tryf.prog w = .ok true w := by kernel_rfl
theorem Tryf.invokeString24 (x : Value) (w : World) : (invoke (.fn (.method "String") #[]) #[.iface 24 x]).run Tryf.prog w = .ok (.enter 23 #[x]) w := by kernel_rfl
theorem Tryf.str24 (w : World) : (typeStr 24).run Tryf.prog w = .ok "fairdraw.Threshold" w := by kernel_rfl

-- the two error types that fmt.errorf makes
theorem Tryf.ptr53 (w : World) : (FmtStop.ptrTo "errors.errorString").run Tryf.prog w = .ok 53 w := by kernel_rfl
theorem Tryf.elem53 (w : World) : (elemOf 53).run Tryf.prog w = .ok 55 w := by kernel_rfl
theorem Tryf.isError53 (w : World) : (FmtDoors.textMethod 53 "Error").run Tryf.prog w = .ok true w := by kernel_rfl
theorem Tryf.name53 : Tryf.prog.typeName? 3 53 = some Tryf.errName := by kernel_rfl
theorem Tryf.str53 (w : World) : (typeStr 53).run Tryf.prog w = .ok Tryf.errName w := by kernel_rfl
def Tryf.plain53 : List UInt8 := 14 :: FmtStop.pack Tryf.errName.toUTF8.data.toList
theorem Tryf.opPlain53_119w (name : String) (a : Addr) (s : ByteArray) (w : World) (hc : w.cell? a = some (.string s)) :
    (FmtStop.operand name true 119 false (.iface 53 (.pointer (some a)))).run Tryf.prog w = .ok (Tryf.plain53, s.data.toList) w := by
  have h1 : (typeStr 53).run Tryf.prog w = .ok Tryf.errName w := by kernel_rfl
  have d2 : Tryf.t53.desc = .pointer 55 := rfl
  have d3 : Tryf.t55.desc = .named "errors.errorString" 54 := rfl
  simp [FmtStop.operand, h1, d2, d3, run_load, hc, Tryf.plain53]
theorem Tryf.act53_119w (name : String) (x : Value) (w : World) : (FmtCalls.act name true 119 false (.iface 53 x)).run Tryf.prog w = .ok (.closed true) w := by kernel_rfl
theorem Tryf.ptr48 (w : World) : (FmtStop.ptrTo "fmt.wrapError").run Tryf.prog w = .ok 48 w := by kernel_rfl
theorem Tryf.elem48 (w : World) : (elemOf 48).run Tryf.prog w = .ok 84 w := by kernel_rfl
theorem Tryf.isError48 (w : World) : (FmtDoors.textMethod 48 "Error").run Tryf.prog w = .ok true w := by kernel_rfl

end Go.Proofs
