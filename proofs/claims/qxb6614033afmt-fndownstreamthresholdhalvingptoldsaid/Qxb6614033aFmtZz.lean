/-
  ZZDownstreamHi, ZZDownstreamLo, ZZDownstreamS, by contracts.
-/
import Derived.Test.Qxb6614033aFmtDown
namespace Go.Proofs.Qxb6614033aFmt
open Go.RowKit Go.Extern.Stop Go.Stop Go.Extern

/-- The call is refused. -/
def Refused (t : Int) (b : Nat) : Prop := 72057594037927935 < t ∨ (b < 4607182418800017408 ∧ blen (nm b * (72057594037927936 - t)) ≤ ns b)

theorem down_ref (F : Interp) (a : Addr) (s : ByteArray) (t : Int) (b : Nat) (f : Value) (w : World) (hw : Start F a s w) (t0 : 0 ≤ t) (h0 : 0 < b) (hr : Refused t b) :
    Calls Tryf.prog 12 #[.int .u64 t, .float .f64 b, f] w fun e w' => (∃ p, e = .returned (.tuple #[.int .u64 0, .iface 48 p])) ∧ Below w.heap.size w w' := by
  by_cases ht : 72057594037927935 < t
  · exact down_big F a s t b f w hw ht
  · obtain ⟨h1, h2⟩ := hr.resolve_left ht
    exact down_low F a s t b f w hw t0 (by omega) h0 h1 h2

set_option maxHeartbeats 1000000 in
theorem zzhi_ref (F : Interp) (a : Addr) (s : ByteArray) (t : Int) (b : Nat) (w : World) (hw : Start F a s w) (t0 : 0 ≤ t) (h0 : 0 < b) (hr : Refused t b) :
    Calls Tryf.prog 5 #[.int .u64 t, .float .f64 b] w fun e w' => (∃ p, e = .returned (.tuple #[.int .u64 0, .iface 48 p])) ∧ Below w.heap.size w w' := by
  have HD : Hid (∀ f, Calls Tryf.prog 12 #[.int .u64 t, .float .f64 b, f] w fun e w' => (∃ p, e = .returned (.tuple #[.int .u64 0, .iface 48 p])) ∧ Below w.heap.size w w') := fun f => down_ref F a s t b f w hw t0 h0 hr
  go_enter Tryf.func5, Tryf.ntmps5
  go_wp2_with fail
  refine (HD.out _).mono ?_
  rintro e w' ⟨⟨p, rfl⟩, hb⟩
  go_wp2
  go_ret2
  exact ⟨⟨p, rfl⟩, hb⟩

set_option maxHeartbeats 1000000 in
theorem zzhi_one (t : Int) (w : World) (ht : t ≤ 72057594037927935) :
    Calls Tryf.prog 5 #[.int .u64 t, .float .f64 4607182418800017408] w fun e w' => e = .returned (.tuple #[.int .u64 t, .nilIface]) ∧ w' = w := by
  go_enter Tryf.func5, Tryf.ntmps5
  go_wp2_with fail
  refine (down_one t _ _ ht).mono ?_
  rintro e w' ⟨rfl, rfl⟩
  go_wp2
  go_ret2
  exact ⟨rfl, rfl⟩

set_option maxHeartbeats 1000000 in
theorem zzhi_ok (t : Int) (b : Nat) (w : World) (t0 : 0 ≤ t) (ht : t ≤ 72057594037927935) (h0 : 0 < b) (h1 : b < 4607182418800017408)
    (hN : ns b < blen (nm b * (72057594037927936 - t))) :
    Calls Tryf.prog 5 #[.int .u64 t, .float .f64 b] w fun e w' => e = .returned (.tuple #[.int .u64 (nm b * (72057594037927936 - t) / 18446744073709551616), .nilIface]) ∧ Below w.heap.size w w' := by
  have HD : Hid (Calls Tryf.prog 12 #[.int .u64 t, .float .f64 b, .func (.func 13) #[] #[]] w fun e w' => e = .returned (.tuple #[.int .u64 (nm b * (72057594037927936 - t) / 18446744073709551616), .nilIface]) ∧ Below w.heap.size w w') := down_ok_hi t b w t0 ht h0 h1 hN
  generalize ((nm b * (72057594037927936 - t) / 18446744073709551616) : Int) = v at *
  go_enter Tryf.func5, Tryf.ntmps5
  go_wp2_with fail
  refine HD.out.mono ?_
  rintro e w' ⟨rfl, hb⟩
  go_wp2
  go_ret2
  exact ⟨rfl, hb⟩

set_option maxHeartbeats 1000000 in
theorem zzlo_ref (F : Interp) (a : Addr) (s : ByteArray) (t : Int) (b : Nat) (w : World) (hw : Start F a s w) (t0 : 0 ≤ t) (h0 : 0 < b) (hr : Refused t b) :
    Calls Tryf.prog 6 #[.int .u64 t, .float .f64 b] w fun e w' => (∃ p, e = .returned (.tuple #[.int .u64 0, .iface 48 p])) ∧ Below w.heap.size w w' := by
  have HD : Hid (∀ f, Calls Tryf.prog 12 #[.int .u64 t, .float .f64 b, f] w fun e w' => (∃ p, e = .returned (.tuple #[.int .u64 0, .iface 48 p])) ∧ Below w.heap.size w w') := fun f => down_ref F a s t b f w hw t0 h0 hr
  go_enter Tryf.func6, Tryf.ntmps6
  go_wp2_with fail
  refine (HD.out _).mono ?_
  rintro e w' ⟨⟨p, rfl⟩, hb⟩
  go_wp2
  go_ret2
  exact ⟨⟨p, rfl⟩, hb⟩

set_option maxHeartbeats 1000000 in
theorem zzlo_one (t : Int) (w : World) (ht : t ≤ 72057594037927935) :
    Calls Tryf.prog 6 #[.int .u64 t, .float .f64 4607182418800017408] w fun e w' => e = .returned (.tuple #[.int .u64 t, .nilIface]) ∧ w' = w := by
  go_enter Tryf.func6, Tryf.ntmps6
  go_wp2_with fail
  refine (down_one t _ _ ht).mono ?_
  rintro e w' ⟨rfl, rfl⟩
  go_wp2
  go_ret2
  exact ⟨rfl, rfl⟩

set_option maxHeartbeats 1000000 in
theorem zzlo_ok (t : Int) (b : Nat) (w : World) (t0 : 0 ≤ t) (ht : t ≤ 72057594037927935) (h0 : 0 < b) (h1 : b < 4607182418800017408)
    (hN : ns b < blen (nm b * (72057594037927936 - t))) :
    Calls Tryf.prog 6 #[.int .u64 t, .float .f64 b] w fun e w' => e = .returned (.tuple #[.int .u64 (nm b * (72057594037927936 - t) % 18446744073709551616), .nilIface]) ∧ Below w.heap.size w w' := by
  have HD : Hid (Calls Tryf.prog 12 #[.int .u64 t, .float .f64 b, .func (.func 14) #[] #[]] w fun e w' => e = .returned (.tuple #[.int .u64 (nm b * (72057594037927936 - t) % 18446744073709551616), .nilIface]) ∧ Below w.heap.size w w') := down_ok_lo t b w t0 ht h0 h1 hN
  generalize ((nm b * (72057594037927936 - t) % 18446744073709551616) : Int) = v at *
  go_enter Tryf.func6, Tryf.ntmps6
  go_wp2_with fail
  refine HD.out.mono ?_
  rintro e w' ⟨rfl, hb⟩
  go_wp2
  go_ret2
  exact ⟨rfl, hb⟩

set_option maxHeartbeats 1000000 in
theorem zzs_ref (F : Interp) (a : Addr) (s : ByteArray) (t : Int) (b : Nat) (w : World) (hw : Start F a s w) (t0 : 0 ≤ t) (h0 : 0 < b) (hr : Refused t b) :
    Calls Tryf.prog 7 #[.int .u64 t, .float .f64 b] w fun e w' => (∃ p, e = .returned (.tuple #[.int .u64 0, .iface 48 p])) ∧ Below w.heap.size w w' := by
  have HD : Hid (∀ f, Calls Tryf.prog 12 #[.int .u64 t, .float .f64 b, f] w fun e w' => (∃ p, e = .returned (.tuple #[.int .u64 0, .iface 48 p])) ∧ Below w.heap.size w w') := fun f => down_ref F a s t b f w hw t0 h0 hr
  go_enter Tryf.func7, Tryf.ntmps7
  go_wp2_with fail
  refine (HD.out _).mono ?_
  rintro e w' ⟨⟨p, rfl⟩, hb⟩
  go_wp2
  go_ret2
  exact ⟨⟨p, rfl⟩, hb⟩

set_option maxHeartbeats 1000000 in
theorem zzs_one (t : Int) (w : World) (ht : t ≤ 72057594037927935) :
    Calls Tryf.prog 7 #[.int .u64 t, .float .f64 4607182418800017408] w fun e w' => e = .returned (.tuple #[.int .u64 t, .nilIface]) ∧ w' = w := by
  go_enter Tryf.func7, Tryf.ntmps7
  go_wp2_with fail
  refine (down_one t _ _ ht).mono ?_
  rintro e w' ⟨rfl, rfl⟩
  go_wp2
  go_ret2
  exact ⟨rfl, rfl⟩

set_option maxHeartbeats 1000000 in
theorem zzs_ok (t : Int) (b : Nat) (w : World) (t0 : 0 ≤ t) (ht : t ≤ 72057594037927935) (h0 : 0 < b) (h1 : b < 4607182418800017408)
    (hN : ns b < blen (nm b * (72057594037927936 - t))) :
    Calls Tryf.prog 7 #[.int .u64 t, .float .f64 b] w fun e w' => e = .returned (.tuple #[.int .u64 (ns b + 56), .nilIface]) ∧ Below w.heap.size w w' := by
  have HD : Hid (Calls Tryf.prog 12 #[.int .u64 t, .float .f64 b, .func (.func 15) #[] #[]] w fun e w' => e = .returned (.tuple #[.int .u64 (ns b + 56), .nilIface]) ∧ Below w.heap.size w w') := down_ok_s t b w t0 ht h0 h1 hN
  generalize ((ns b + 56) : Int) = v at *
  go_enter Tryf.func7, Tryf.ntmps7
  go_wp2_with fail
  refine HD.out.mono ?_
  rintro e w' ⟨rfl, hb⟩
  go_wp2
  go_ret2
  exact ⟨rfl, hb⟩

end Go.Proofs.Qxb6614033aFmt
