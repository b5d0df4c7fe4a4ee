/-
  ql.coerce1 (a literal integer). PRINTED BY wip/tpl/gen_co1.py.
-/
import Derived.Test.YtamekjbdpcflfaaCo1z
namespace Go.Proofs.Ytamekjbdpcflfaa
open Go.RowKit

set_option maxRecDepth 100000 in
set_option maxHeartbeats 1000000 in
theorem co1_iInt_bool (n : Int) (z : Value) (w : World) :
    Calls Try.prog 56 #[.iface 74 (.int .i64 n), .iface 4 z] w fun e w' => e = .returned (.iface 74 (.int .i64 n)) ∧ w = w' := by
  go_enter Try.func56, Try.ntmps56
  go_wp2
  go_ret
  exact ⟨rfl, rfl⟩

set_option maxRecDepth 100000 in
set_option maxHeartbeats 1000000 in
theorem co1_iInt_str (n : Int) (z : Value) (w : World) :
    Calls Try.prog 56 #[.iface 74 (.int .i64 n), .iface 9 z] w fun e w' => e = .returned (.iface 74 (.int .i64 n)) ∧ w = w' := by
  go_enter Try.func56, Try.ntmps56
  go_wp2
  go_ret
  exact ⟨rfl, rfl⟩

set_option maxRecDepth 100000 in
set_option maxHeartbeats 1000000 in
theorem co1_iInt_blob (n : Int) (z : Value) (w : World) :
    Calls Try.prog 56 #[.iface 74 (.int .i64 n), .iface 64 z] w fun e w' => e = .returned (.iface 74 (.int .i64 n)) ∧ w = w' := by
  go_enter Try.func56, Try.ntmps56
  go_wp2
  go_ret
  exact ⟨rfl, rfl⟩

set_option maxRecDepth 100000 in
set_option maxHeartbeats 1000000 in
theorem co1_iInt_iInt (n : Int) (z : Value) (w : World) :
    Calls Try.prog 56 #[.iface 74 (.int .i64 n), .iface 74 z] w fun e w' => e = .returned (.iface 74 (.int .i64 n)) ∧ w = w' := by
  go_enter Try.func56, Try.ntmps56
  go_wp2
  go_ret
  exact ⟨rfl, rfl⟩

set_option maxRecDepth 100000 in
set_option maxHeartbeats 1000000 in
theorem co1_iInt_iRune (n : Int) (z : Value) (w : World) :
    Calls Try.prog 56 #[.iface 74 (.int .i64 n), .iface 75 z] w fun e w' => e = .returned (.iface 74 (.int .i64 n)) ∧ w = w' := by
  go_enter Try.func56, Try.ntmps56
  go_wp2
  go_ret
  exact ⟨rfl, rfl⟩

set_option maxRecDepth 100000 in
set_option maxHeartbeats 1000000 in
theorem co1_iInt_iFloat (n : Int) (z : Value) (w : World) :
    Calls Try.prog 56 #[.iface 74 (.int .i64 n), .iface 73 z] w fun e w' => e = .returned (.iface 73 (.float .f64 (floatOfInt .f64 n))) ∧ w = w' := by
  go_enter Try.func56, Try.ntmps56
  go_wp2
  go_ret
  exact ⟨rfl, rfl⟩

set_option maxRecDepth 100000 in
set_option maxHeartbeats 1000000 in
theorem co1_iInt_f32 (n : Int) (z : Value) (w : World) :
    Calls Try.prog 56 #[.iface 74 (.int .i64 n), .iface 46 z] w fun e w' => e = .returned (.iface 46 (.float .f32 (floatOfInt .f32 n))) ∧ w = w' := by
  go_enter Try.func56, Try.ntmps56
  go_wp2
  go_ret
  exact ⟨rfl, rfl⟩

set_option maxRecDepth 100000 in
set_option maxHeartbeats 1000000 in
theorem co1_iInt_f64 (n : Int) (z : Value) (w : World) :
    Calls Try.prog 56 #[.iface 74 (.int .i64 n), .iface 23 z] w fun e w' => e = .returned (.iface 23 (.float .f64 (floatOfInt .f64 n))) ∧ w = w' := by
  go_enter Try.func56, Try.ntmps56
  go_wp2
  go_ret
  exact ⟨rfl, rfl⟩

set_option maxRecDepth 100000 in
set_option maxHeartbeats 1000000 in
theorem co1_iInt_iUint_ok (n : Int) (z : Value) (h1 : 0 ≤ n) (h2 : n ≤ 9223372036854775807) (w : World) :
    Calls Try.prog 56 #[.iface 74 (.int .i64 n), .iface 76 z] w fun e w' => e = .returned (.iface 76 (.int .u64 n)) ∧ w = w' := by
  have hw : IntKind.u64.wrap n = n := wrap_i (by simp [IntKind.min, IntKind.signed]; omega) (by simp [IntKind.max, IntKind.signed, IntKind.bits]; omega)
  go_enter Try.func56, Try.ntmps56
  go_wp2
  go_ret
  exact ⟨rfl, rfl⟩

set_option maxRecDepth 100000 in
set_option maxHeartbeats 1000000 in
theorem co1_iInt_iUint_no (n : Int) (z : Value) (h1 : n < 0) (w : World) :
    Calls Try.prog 56 #[.iface 74 (.int .i64 n), .iface 76 z] w fun e w' => e = .returned (.iface 74 (.int .i64 n)) ∧ w = w' := by
  go_enter Try.func56, Try.ntmps56
  go_wp2
  go_ret
  exact ⟨rfl, rfl⟩

set_option maxRecDepth 100000 in
set_option maxHeartbeats 1000000 in
theorem co1_iInt_i8_ok (n : Int) (z : Value) (h1 : -128 ≤ n) (h2 : n ≤ 127) (w : World) :
    Calls Try.prog 56 #[.iface 74 (.int .i64 n), .iface 60 z] w fun e w' => e = .returned (.iface 60 (.int .i8 n)) ∧ w = w' := by
  have hw : IntKind.i8.wrap n = n := wrap_i (by rw [q_i8.1]; omega) (by rw [q_i8.2]; omega)
  go_enter Try.func56, Try.ntmps56
  go_wp2
  go_ret
  exact ⟨rfl, rfl⟩

set_option maxRecDepth 100000 in
set_option maxHeartbeats 1000000 in
theorem co1_iInt_i8_lo (n : Int) (z : Value) (h1 : n < -128) (w : World) :
    Calls Try.prog 56 #[.iface 74 (.int .i64 n), .iface 60 z] w fun e w' => e = .returned (.iface 74 (.int .i64 n)) ∧ w = w' := by
  go_enter Try.func56, Try.ntmps56
  go_wp2
  go_ret
  exact ⟨rfl, rfl⟩

set_option maxRecDepth 100000 in
set_option maxHeartbeats 1000000 in
theorem co1_iInt_i8_hi (n : Int) (z : Value) (h1 : 127 < n) (h2 : -128 ≤ n) (w : World) :
    Calls Try.prog 56 #[.iface 74 (.int .i64 n), .iface 60 z] w fun e w' => e = .returned (.iface 74 (.int .i64 n)) ∧ w = w' := by
  go_enter Try.func56, Try.ntmps56
  go_wp2
  go_ret
  exact ⟨rfl, rfl⟩

set_option maxRecDepth 100000 in
set_option maxHeartbeats 1000000 in
theorem co1_iInt_i16_ok (n : Int) (z : Value) (h1 : -32768 ≤ n) (h2 : n ≤ 32767) (w : World) :
    Calls Try.prog 56 #[.iface 74 (.int .i64 n), .iface 61 z] w fun e w' => e = .returned (.iface 61 (.int .i16 n)) ∧ w = w' := by
  have hw : IntKind.i16.wrap n = n := wrap_i (by rw [q_i16.1]; omega) (by rw [q_i16.2]; omega)
  go_enter Try.func56, Try.ntmps56
  go_wp2
  go_ret
  exact ⟨rfl, rfl⟩

set_option maxRecDepth 100000 in
set_option maxHeartbeats 1000000 in
theorem co1_iInt_i16_lo (n : Int) (z : Value) (h1 : n < -32768) (w : World) :
    Calls Try.prog 56 #[.iface 74 (.int .i64 n), .iface 61 z] w fun e w' => e = .returned (.iface 74 (.int .i64 n)) ∧ w = w' := by
  go_enter Try.func56, Try.ntmps56
  go_wp2
  go_ret
  exact ⟨rfl, rfl⟩

set_option maxRecDepth 100000 in
set_option maxHeartbeats 1000000 in
theorem co1_iInt_i16_hi (n : Int) (z : Value) (h1 : 32767 < n) (h2 : -32768 ≤ n) (w : World) :
    Calls Try.prog 56 #[.iface 74 (.int .i64 n), .iface 61 z] w fun e w' => e = .returned (.iface 74 (.int .i64 n)) ∧ w = w' := by
  go_enter Try.func56, Try.ntmps56
  go_wp2
  go_ret
  exact ⟨rfl, rfl⟩

set_option maxRecDepth 100000 in
set_option maxHeartbeats 1000000 in
theorem co1_iInt_i32_ok (n : Int) (z : Value) (h1 : -2147483648 ≤ n) (h2 : n ≤ 2147483647) (w : World) :
    Calls Try.prog 56 #[.iface 74 (.int .i64 n), .iface 21 z] w fun e w' => e = .returned (.iface 21 (.int .i32 n)) ∧ w = w' := by
  have hw : IntKind.i32.wrap n = n := wrap_i (by rw [q_i32.1]; omega) (by rw [q_i32.2]; omega)
  go_enter Try.func56, Try.ntmps56
  go_wp2
  go_ret
  exact ⟨rfl, rfl⟩

set_option maxRecDepth 100000 in
set_option maxHeartbeats 1000000 in
theorem co1_iInt_i32_lo (n : Int) (z : Value) (h1 : n < -2147483648) (w : World) :
    Calls Try.prog 56 #[.iface 74 (.int .i64 n), .iface 21 z] w fun e w' => e = .returned (.iface 74 (.int .i64 n)) ∧ w = w' := by
  go_enter Try.func56, Try.ntmps56
  go_wp2
  go_ret
  exact ⟨rfl, rfl⟩

set_option maxRecDepth 100000 in
set_option maxHeartbeats 1000000 in
theorem co1_iInt_i32_hi (n : Int) (z : Value) (h1 : 2147483647 < n) (h2 : -2147483648 ≤ n) (w : World) :
    Calls Try.prog 56 #[.iface 74 (.int .i64 n), .iface 21 z] w fun e w' => e = .returned (.iface 74 (.int .i64 n)) ∧ w = w' := by
  go_enter Try.func56, Try.ntmps56
  go_wp2
  go_ret
  exact ⟨rfl, rfl⟩

set_option maxRecDepth 100000 in
set_option maxHeartbeats 1000000 in
theorem co1_iInt_i64_ok (n : Int) (z : Value) (w : World) :
    Calls Try.prog 56 #[.iface 74 (.int .i64 n), .iface 2 z] w fun e w' => e = .returned (.iface 2 (.int .i64 n)) ∧ w = w' := by
  go_enter Try.func56, Try.ntmps56
  go_wp2
  go_ret
  exact ⟨rfl, rfl⟩

set_option maxRecDepth 100000 in
set_option maxHeartbeats 1000000 in
theorem co1_iInt_u8_ok (n : Int) (z : Value) (h1 : 0 ≤ n) (h2 : n ≤ 255) (w : World) :
    Calls Try.prog 56 #[.iface 74 (.int .i64 n), .iface 5 z] w fun e w' => e = .returned (.iface 5 (.int .u8 n)) ∧ w = w' := by
  have hw : IntKind.u8.wrap n = n := wrap_i (by rw [q_u8.1]; omega) (by rw [q_u8.2]; omega)
  go_enter Try.func56, Try.ntmps56
  go_wp2
  go_ret
  exact ⟨rfl, rfl⟩

set_option maxRecDepth 100000 in
set_option maxHeartbeats 1000000 in
theorem co1_iInt_u8_lo (n : Int) (z : Value) (h1 : n < 0) (w : World) :
    Calls Try.prog 56 #[.iface 74 (.int .i64 n), .iface 5 z] w fun e w' => e = .returned (.iface 74 (.int .i64 n)) ∧ w = w' := by
  go_enter Try.func56, Try.ntmps56
  go_wp2
  go_ret
  exact ⟨rfl, rfl⟩

set_option maxRecDepth 100000 in
set_option maxHeartbeats 1000000 in
theorem co1_iInt_u8_hi (n : Int) (z : Value) (h1 : 255 < n) (h2 : 0 ≤ n) (w : World) :
    Calls Try.prog 56 #[.iface 74 (.int .i64 n), .iface 5 z] w fun e w' => e = .returned (.iface 74 (.int .i64 n)) ∧ w = w' := by
  go_enter Try.func56, Try.ntmps56
  go_wp2
  go_ret
  exact ⟨rfl, rfl⟩

set_option maxRecDepth 100000 in
set_option maxHeartbeats 1000000 in
theorem co1_iInt_u16_ok (n : Int) (z : Value) (h1 : 0 ≤ n) (h2 : n ≤ 65535) (w : World) :
    Calls Try.prog 56 #[.iface 74 (.int .i64 n), .iface 62 z] w fun e w' => e = .returned (.iface 62 (.int .u16 n)) ∧ w = w' := by
  have hw : IntKind.u16.wrap n = n := wrap_i (by rw [q_u16.1]; omega) (by rw [q_u16.2]; omega)
  go_enter Try.func56, Try.ntmps56
  go_wp2
  go_ret
  exact ⟨rfl, rfl⟩

set_option maxRecDepth 100000 in
set_option maxHeartbeats 1000000 in
theorem co1_iInt_u16_lo (n : Int) (z : Value) (h1 : n < 0) (w : World) :
    Calls Try.prog 56 #[.iface 74 (.int .i64 n), .iface 62 z] w fun e w' => e = .returned (.iface 74 (.int .i64 n)) ∧ w = w' := by
  go_enter Try.func56, Try.ntmps56
  go_wp2
  go_ret
  exact ⟨rfl, rfl⟩

set_option maxRecDepth 100000 in
set_option maxHeartbeats 1000000 in
theorem co1_iInt_u16_hi (n : Int) (z : Value) (h1 : 65535 < n) (h2 : 0 ≤ n) (w : World) :
    Calls Try.prog 56 #[.iface 74 (.int .i64 n), .iface 62 z] w fun e w' => e = .returned (.iface 74 (.int .i64 n)) ∧ w = w' := by
  go_enter Try.func56, Try.ntmps56
  go_wp2
  go_ret
  exact ⟨rfl, rfl⟩

set_option maxRecDepth 100000 in
set_option maxHeartbeats 1000000 in
theorem co1_iInt_u32_ok (n : Int) (z : Value) (h1 : 0 ≤ n) (h2 : n ≤ 4294967295) (w : World) :
    Calls Try.prog 56 #[.iface 74 (.int .i64 n), .iface 63 z] w fun e w' => e = .returned (.iface 63 (.int .u32 n)) ∧ w = w' := by
  have hw : IntKind.u32.wrap n = n := wrap_i (by rw [q_u32.1]; omega) (by rw [q_u32.2]; omega)
  go_enter Try.func56, Try.ntmps56
  go_wp2
  go_ret
  exact ⟨rfl, rfl⟩

set_option maxRecDepth 100000 in
set_option maxHeartbeats 1000000 in
theorem co1_iInt_u32_lo (n : Int) (z : Value) (h1 : n < 0) (w : World) :
    Calls Try.prog 56 #[.iface 74 (.int .i64 n), .iface 63 z] w fun e w' => e = .returned (.iface 74 (.int .i64 n)) ∧ w = w' := by
  go_enter Try.func56, Try.ntmps56
  go_wp2
  go_ret
  exact ⟨rfl, rfl⟩

set_option maxRecDepth 100000 in
set_option maxHeartbeats 1000000 in
theorem co1_iInt_u32_hi (n : Int) (z : Value) (h1 : 4294967295 < n) (h2 : 0 ≤ n) (w : World) :
    Calls Try.prog 56 #[.iface 74 (.int .i64 n), .iface 63 z] w fun e w' => e = .returned (.iface 74 (.int .i64 n)) ∧ w = w' := by
  go_enter Try.func56, Try.ntmps56
  go_wp2
  go_ret
  exact ⟨rfl, rfl⟩

set_option maxRecDepth 100000 in
set_option maxHeartbeats 1000000 in
theorem co1_iInt_u64_ok (n : Int) (z : Value) (h1 : 0 ≤ n) (h2 : n ≤ 9223372036854775807) (w : World) :
    Calls Try.prog 56 #[.iface 74 (.int .i64 n), .iface 22 z] w fun e w' => e = .returned (.iface 22 (.int .u64 n)) ∧ w = w' := by
  have hw : IntKind.u64.wrap n = n := wrap_i (by simp [IntKind.min, IntKind.signed]; omega) (by simp [IntKind.max, IntKind.signed, IntKind.bits]; omega)
  go_enter Try.func56, Try.ntmps56
  go_wp2
  go_ret
  exact ⟨rfl, rfl⟩

set_option maxRecDepth 100000 in
set_option maxHeartbeats 1000000 in
theorem co1_iInt_u64_lo (n : Int) (z : Value) (h1 : n < 0) (w : World) :
    Calls Try.prog 56 #[.iface 74 (.int .i64 n), .iface 22 z] w fun e w' => e = .returned (.iface 74 (.int .i64 n)) ∧ w = w' := by
  go_enter Try.func56, Try.ntmps56
  go_wp2
  go_ret
  exact ⟨rfl, rfl⟩

end Go.Proofs.Ytamekjbdpcflfaa
