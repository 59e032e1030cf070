/-
  fmt.Errorf at the three formats of 'downstreamThreshold', by contracts: whatever F stands for fmt's text, an error that is not nil comes back.
-/
import Derived.Test.Qxb6614033aFmtFacts
import Derived.Test.Qxb6614033aFmtHex
namespace Go.Proofs.Qxb6614033aFmt
open Go.RowKit Go.Extern.Stop Go.Stop Go.Extern
attribute [local go_sem] Tryf.call21 Tryf.guard Tryf.fmtA Tryf.fmtAr Tryf.fmtB Tryf.fmtBr Tryf.fmtC Tryf.fmtCr Tryf.act22_120sw Tryf.op22_120sw Tryf.str22 Tryf.act23_118w Tryf.op23_118w Tryf.str23 Tryf.act24_118w Tryf.isString24 Tryf.str24 Tryf.ptr53 Tryf.elem53 Tryf.isError53 Tryf.str53 Tryf.act53_119w Tryf.ptr48 Tryf.elem48 Tryf.isError48

set_option maxHeartbeats 800000 in
theorem errA (F : Interp) (t : Int) (a : Addr) (s : ByteArray) (b : Nat) (w : World) (hF : F.answers w.tape) (hs : w.cell? a = some (.string s))
    (h0 : w.cell? ⟨b, 0, none⟩ = some (.iface 53 (.pointer (some a)))) (h1 : w.cell? ⟨b, 1, none⟩ = some (.iface 22 (.int .u64 t))) :
    Calls Tryf.prog 17 #[.string ⟨#[37, 119, 58, 32, 116, 104, 114, 101, 115, 104, 111, 108, 100, 32, 37, 35, 120]⟩, .slice (some ⟨b, 0, none⟩) 2 2] w fun e w' =>
      (∃ p, e = .returned (.iface 48 p)) ∧ Below w.heap.size w w' := by
  have hF' := answers_open hF
  have hop := Tryf.opPlain53_119w "fmt.errorf" a s _ hs
  go_enter Tryf.func17, Tryf.ntmps17
  go_wp2
  apply rows_value Tryf.nextTurns
  case hr =>
    go_simp
    exact ⟨rfl, rfl⟩
  case h =>
    go_wp2
    go_ret
    exact ⟨⟨_, rfl⟩, ((Below.refl _ _).alloc (Nat.le_refl _) _).drew⟩

set_option maxHeartbeats 800000 in
theorem errB (F : Interp) (x : Nat) (a : Addr) (s : ByteArray) (b : Nat) (w : World) (hF : F.answers w.tape) (hs : w.cell? a = some (.string s))
    (h0 : w.cell? ⟨b, 0, none⟩ = some (.iface 53 (.pointer (some a)))) (h1 : w.cell? ⟨b, 1, none⟩ = some (.iface 23 (.float .f64 x))) :
    Calls Tryf.prog 17 #[.string ⟨#[37, 119, 58, 32, 37, 118]⟩, .slice (some ⟨b, 0, none⟩) 2 2] w fun e w' =>
      (∃ p, e = .returned (.iface 48 p)) ∧ Below w.heap.size w w' := by
  have hF' := answers_open hF
  have hop := Tryf.opPlain53_119w "fmt.errorf" a s _ hs
  go_enter Tryf.func17, Tryf.ntmps17
  go_wp2
  apply rows_value Tryf.nextTurns
  case hr =>
    go_simp
    exact ⟨rfl, rfl⟩
  case h =>
    go_wp2
    go_ret
    exact ⟨⟨_, rfl⟩, ((Below.refl _ _).alloc (Nat.le_refl _) _).drew⟩

set_option maxHeartbeats 800000 in
theorem errC (F : Interp) (x : Nat) (t : Int) (a : Addr) (s : ByteArray) (b : Nat) (w : World) (hF : F.answers w.tape) (t0 : 0 ≤ t) (t1 : t ≤ 72057594037927935) (hs : w.cell? a = some (.string s))
    (h0 : w.cell? ⟨b, 0, none⟩ = some (.iface 53 (.pointer (some a)))) (h1 : w.cell? ⟨b, 1, none⟩ = some (.iface 23 (.float .f64 x))) (h2 : w.cell? ⟨b, 2, none⟩ = some (.iface 24 (.int .u64 t))) :
    Calls Tryf.prog 17 #[.string ⟨#[37, 119, 58, 32, 37, 118, 32, 116, 105, 109, 101, 115, 32, 116, 104, 101, 32, 112, 114, 111, 98, 97, 98, 105, 108, 105, 116, 121, 32, 111, 102, 32, 116, 104, 114, 101, 115, 104, 111, 108, 100, 32, 37, 118]⟩, .slice (some ⟨b, 0, none⟩) 3 3] w fun e w' =>
      (∃ p, e = .returned (.iface 48 p)) ∧ Below w.heap.size w w' := by
  have hF' := answers_open hF
  have hop := Tryf.opPlain53_119w "fmt.errorf" a s _ hs
  go_enter Tryf.func17, Tryf.ntmps17
  go_wp2
  apply rows_call Tryf.nextTurns
  case hr =>
    go_simp
    exact ⟨⟨rfl, rfl, rfl⟩, rfl⟩
  case hi => exact Tryf.invokeString24 _ _
  case hc =>
    refine (string_any t _ t0 t1).mono fun e w₃ ⟨L, he, _, hx⟩ => ?_
    subst he
    have hF3 := answers_open (F := F) (tape := w₃.tape) (by rw [hx.tape]; exact hF)
    have hc0 := (hx.cell (p := ⟨b, 0, none⟩) (World.block_lt_of_cell? _ _ h0)).trans h0
    have hc1 := (hx.cell (p := ⟨b, 1, none⟩) (World.block_lt_of_cell? _ _ h1)).trans h1
    have hc2 := (hx.cell (p := ⟨b, 2, none⟩) (World.block_lt_of_cell? _ _ h2)).trans h2
    apply rows_value Tryf.nextReturned
    case hr =>
      go_simp
      exact ⟨rfl, rfl⟩
    case h =>
      go_wp2
      go_ret
      exact ⟨⟨_, rfl⟩, (hx.alloc hx.size _).drew⟩

end Go.Proofs.Qxb6614033aFmt
