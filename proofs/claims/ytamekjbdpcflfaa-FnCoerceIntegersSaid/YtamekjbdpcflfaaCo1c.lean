/-
  ql.coerce1 (a literal unsigned integer). PRINTED BY wip/tpl/gen_co1.py.
-/
import Derived.Test.YtamekjbdpcflfaaCo1z
namespace Go.Proofs.Ytamekjbdpcflfaa
open Go.RowKit

set_option maxRecDepth 100000 in
set_option maxHeartbeats 1000000 in
theorem co1_iUint_bool (n : Int) (z : Value) (w : World) :
    Calls Try.prog 56 #[.iface 76 (.int .u64 n), .iface 4 z] w fun e w' => e = .returned (.iface 76 (.int .u64 n)) ∧ w = w' := by
  go_enter Try.func56, Try.ntmps56
  go_wp2
  go_ret
  exact ⟨rfl, rfl⟩

set_option maxRecDepth 100000 in
set_option maxHeartbeats 1000000 in
theorem co1_iUint_str (n : Int) (z : Value) (w : World) :
    Calls Try.prog 56 #[.iface 76 (.int .u64 n), .iface 9 z] w fun e w' => e = .returned (.iface 76 (.int .u64 n)) ∧ w = w' := by
  go_enter Try.func56, Try.ntmps56
  go_wp2
  go_ret
  exact ⟨rfl, rfl⟩

set_option maxRecDepth 100000 in
set_option maxHeartbeats 1000000 in
theorem co1_iUint_blob (n : Int) (z : Value) (w : World) :
    Calls Try.prog 56 #[.iface 76 (.int .u64 n), .iface 64 z] w fun e w' => e = .returned (.iface 76 (.int .u64 n)) ∧ w = w' := by
  go_enter Try.func56, Try.ntmps56
  go_wp2
  go_ret
  exact ⟨rfl, rfl⟩

set_option maxRecDepth 100000 in
set_option maxHeartbeats 1000000 in
theorem co1_iUint_iRune (n : Int) (z : Value) (w : World) :
    Calls Try.prog 56 #[.iface 76 (.int .u64 n), .iface 75 z] w fun e w' => e = .returned (.iface 76 (.int .u64 n)) ∧ w = w' := by
  go_enter Try.func56, Try.ntmps56
  go_wp2
  go_ret
  exact ⟨rfl, rfl⟩

set_option maxRecDepth 100000 in
set_option maxHeartbeats 1000000 in
theorem co1_iUint_iUint (n : Int) (z : Value) (w : World) :
    Calls Try.prog 56 #[.iface 76 (.int .u64 n), .iface 76 z] w fun e w' => e = .returned (.iface 76 (.int .u64 n)) ∧ w = w' := by
  go_enter Try.func56, Try.ntmps56
  go_wp2
  go_ret
  exact ⟨rfl, rfl⟩

set_option maxRecDepth 100000 in
set_option maxHeartbeats 1000000 in
theorem co1_iUint_iFloat (n : Int) (z : Value) (w : World) :
    Calls Try.prog 56 #[.iface 76 (.int .u64 n), .iface 73 z] w fun e w' => e = .returned (.iface 73 (.float .f64 (floatOfInt .f64 n))) ∧ w = w' := by
  go_enter Try.func56, Try.ntmps56
  go_wp2
  go_ret
  exact ⟨rfl, rfl⟩

set_option maxRecDepth 100000 in
set_option maxHeartbeats 1000000 in
theorem co1_iUint_f32 (n : Int) (z : Value) (w : World) :
    Calls Try.prog 56 #[.iface 76 (.int .u64 n), .iface 46 z] w fun e w' => e = .returned (.iface 46 (.float .f32 (floatOfInt .f32 n))) ∧ w = w' := by
  go_enter Try.func56, Try.ntmps56
  go_wp2
  go_ret
  exact ⟨rfl, rfl⟩

set_option maxRecDepth 100000 in
set_option maxHeartbeats 1000000 in
theorem co1_iUint_f64 (n : Int) (z : Value) (w : World) :
    Calls Try.prog 56 #[.iface 76 (.int .u64 n), .iface 23 z] w fun e w' => e = .returned (.iface 23 (.float .f64 (floatOfInt .f64 n))) ∧ w = w' := by
  go_enter Try.func56, Try.ntmps56
  go_wp2
  go_ret
  exact ⟨rfl, rfl⟩

set_option maxRecDepth 100000 in
set_option maxHeartbeats 1000000 in
theorem co1_iUint_iInt_ok (n : Int) (z : Value) (h0 : 0 ≤ n) (h1 : n ≤ 9223372036854775807) (w : World) :
    Calls Try.prog 56 #[.iface 76 (.int .u64 n), .iface 74 z] w (IntPost 74 .i64 w) := by
  go_enter Try.func56, Try.ntmps56
  go_wp2
  go_ret
  refine ⟨_, ?_, ?_, rfl, rfl⟩
  · first | exact (wrap_bounds _ _).1 | (rw [q_i64.1]; omega)
  · first | exact (wrap_bounds _ _).2 | (rw [q_i64.2]; omega)

set_option maxRecDepth 100000 in
set_option maxHeartbeats 1000000 in
theorem co1_iUint_iInt_no (n : Int) (z : Value) (h1 : 9223372036854775807 < n) (w : World) :
    Calls Try.prog 56 #[.iface 76 (.int .u64 n), .iface 74 z] w fun e w' => e = .returned (.iface 76 (.int .u64 n)) ∧ w = w' := by
  go_enter Try.func56, Try.ntmps56
  go_wp2
  go_ret
  exact ⟨rfl, rfl⟩

set_option maxRecDepth 100000 in
set_option maxHeartbeats 1000000 in
theorem co1_iUint_i8_ok (n : Int) (z : Value) (h0 : 0 ≤ n) (h1 : n ≤ 127) (w : World) :
    Calls Try.prog 56 #[.iface 76 (.int .u64 n), .iface 60 z] w (IntPost 60 .i8 w) := by
  go_enter Try.func56, Try.ntmps56
  go_wp2
  go_ret
  refine ⟨_, ?_, ?_, rfl, rfl⟩
  · first | exact (wrap_bounds _ _).1 | (rw [q_i8.1]; omega)
  · first | exact (wrap_bounds _ _).2 | (rw [q_i8.2]; omega)

set_option maxRecDepth 100000 in
set_option maxHeartbeats 1000000 in
theorem co1_iUint_i8_no (n : Int) (z : Value) (h1 : 127 < n) (w : World) :
    Calls Try.prog 56 #[.iface 76 (.int .u64 n), .iface 60 z] w fun e w' => e = .returned (.iface 76 (.int .u64 n)) ∧ w = w' := by
  go_enter Try.func56, Try.ntmps56
  go_wp2
  go_ret
  exact ⟨rfl, rfl⟩

set_option maxRecDepth 100000 in
set_option maxHeartbeats 1000000 in
theorem co1_iUint_i16_ok (n : Int) (z : Value) (h0 : 0 ≤ n) (h1 : n ≤ 32767) (w : World) :
    Calls Try.prog 56 #[.iface 76 (.int .u64 n), .iface 61 z] w (IntPost 61 .i16 w) := by
  go_enter Try.func56, Try.ntmps56
  go_wp2
  go_ret
  refine ⟨_, ?_, ?_, rfl, rfl⟩
  · first | exact (wrap_bounds _ _).1 | (rw [q_i16.1]; omega)
  · first | exact (wrap_bounds _ _).2 | (rw [q_i16.2]; omega)

set_option maxRecDepth 100000 in
set_option maxHeartbeats 1000000 in
theorem co1_iUint_i16_no (n : Int) (z : Value) (h1 : 32767 < n) (w : World) :
    Calls Try.prog 56 #[.iface 76 (.int .u64 n), .iface 61 z] w fun e w' => e = .returned (.iface 76 (.int .u64 n)) ∧ w = w' := by
  go_enter Try.func56, Try.ntmps56
  go_wp2
  go_ret
  exact ⟨rfl, rfl⟩

set_option maxRecDepth 100000 in
set_option maxHeartbeats 1000000 in
theorem co1_iUint_i32_ok (n : Int) (z : Value) (h0 : 0 ≤ n) (h1 : n ≤ 2147483647) (w : World) :
    Calls Try.prog 56 #[.iface 76 (.int .u64 n), .iface 21 z] w (IntPost 21 .i32 w) := by
  go_enter Try.func56, Try.ntmps56
  go_wp2
  go_ret
  refine ⟨_, ?_, ?_, rfl, rfl⟩
  · first | exact (wrap_bounds _ _).1 | (rw [q_i32.1]; omega)
  · first | exact (wrap_bounds _ _).2 | (rw [q_i32.2]; omega)

set_option maxRecDepth 100000 in
set_option maxHeartbeats 1000000 in
theorem co1_iUint_i32_no (n : Int) (z : Value) (h1 : 2147483647 < n) (w : World) :
    Calls Try.prog 56 #[.iface 76 (.int .u64 n), .iface 21 z] w fun e w' => e = .returned (.iface 76 (.int .u64 n)) ∧ w = w' := by
  go_enter Try.func56, Try.ntmps56
  go_wp2
  go_ret
  exact ⟨rfl, rfl⟩

set_option maxRecDepth 100000 in
set_option maxHeartbeats 1000000 in
theorem co1_iUint_i64_ok (n : Int) (z : Value) (h0 : 0 ≤ n) (h1 : n ≤ 9223372036854775807) (w : World) :
    Calls Try.prog 56 #[.iface 76 (.int .u64 n), .iface 2 z] w (IntPost 2 .i64 w) := by
  go_enter Try.func56, Try.ntmps56
  go_wp2
  go_ret
  refine ⟨_, ?_, ?_, rfl, rfl⟩
  · first | exact (wrap_bounds _ _).1 | (rw [q_i64.1]; omega)
  · first | exact (wrap_bounds _ _).2 | (rw [q_i64.2]; omega)

set_option maxRecDepth 100000 in
set_option maxHeartbeats 1000000 in
theorem co1_iUint_i64_no (n : Int) (z : Value) (h1 : 9223372036854775807 < n) (w : World) :
    Calls Try.prog 56 #[.iface 76 (.int .u64 n), .iface 2 z] w fun e w' => e = .returned (.iface 76 (.int .u64 n)) ∧ w = w' := by
  go_enter Try.func56, Try.ntmps56
  go_wp2
  go_ret
  exact ⟨rfl, rfl⟩

set_option maxRecDepth 100000 in
set_option maxHeartbeats 1000000 in
theorem co1_iUint_u8_ok (n : Int) (z : Value) (h0 : 0 ≤ n) (h1 : n ≤ 255) (w : World) :
    Calls Try.prog 56 #[.iface 76 (.int .u64 n), .iface 5 z] w (IntPost 5 .u8 w) := by
  go_enter Try.func56, Try.ntmps56
  go_wp2
  go_ret
  refine ⟨_, ?_, ?_, rfl, rfl⟩
  · first | exact (wrap_bounds _ _).1 | (rw [q_u8.1]; omega)
  · first | exact (wrap_bounds _ _).2 | (rw [q_u8.2]; omega)

set_option maxRecDepth 100000 in
set_option maxHeartbeats 1000000 in
theorem co1_iUint_u8_no (n : Int) (z : Value) (h0 : 0 ≤ n) (h1 : 255 < n) (w : World) :
    Calls Try.prog 56 #[.iface 76 (.int .u64 n), .iface 5 z] w fun e w' => e = .returned (.iface 76 (.int .u64 n)) ∧ w = w' := by
  go_enter Try.func56, Try.ntmps56
  go_wp2
  go_ret
  exact ⟨rfl, rfl⟩

set_option maxRecDepth 100000 in
set_option maxHeartbeats 1000000 in
theorem co1_iUint_u16_ok (n : Int) (z : Value) (h0 : 0 ≤ n) (h1 : n ≤ 65535) (w : World) :
    Calls Try.prog 56 #[.iface 76 (.int .u64 n), .iface 62 z] w (IntPost 62 .u16 w) := by
  go_enter Try.func56, Try.ntmps56
  go_wp2
  go_ret
  refine ⟨_, ?_, ?_, rfl, rfl⟩
  · first | exact (wrap_bounds _ _).1 | (rw [q_u16.1]; omega)
  · first | exact (wrap_bounds _ _).2 | (rw [q_u16.2]; omega)

set_option maxRecDepth 100000 in
set_option maxHeartbeats 1000000 in
theorem co1_iUint_u16_no (n : Int) (z : Value) (h0 : 0 ≤ n) (h1 : 65535 < n) (w : World) :
    Calls Try.prog 56 #[.iface 76 (.int .u64 n), .iface 62 z] w fun e w' => e = .returned (.iface 76 (.int .u64 n)) ∧ w = w' := by
  go_enter Try.func56, Try.ntmps56
  go_wp2
  go_ret
  exact ⟨rfl, rfl⟩

set_option maxRecDepth 100000 in
set_option maxHeartbeats 1000000 in
theorem co1_iUint_u32_ok (n : Int) (z : Value) (h0 : 0 ≤ n) (h1 : n ≤ 4294967295) (w : World) :
    Calls Try.prog 56 #[.iface 76 (.int .u64 n), .iface 63 z] w (IntPost 63 .u32 w) := by
  go_enter Try.func56, Try.ntmps56
  go_wp2
  go_ret
  refine ⟨_, ?_, ?_, rfl, rfl⟩
  · first | exact (wrap_bounds _ _).1 | (rw [q_u32.1]; omega)
  · first | exact (wrap_bounds _ _).2 | (rw [q_u32.2]; omega)

set_option maxRecDepth 100000 in
set_option maxHeartbeats 1000000 in
theorem co1_iUint_u32_no (n : Int) (z : Value) (h0 : 0 ≤ n) (h1 : 4294967295 < n) (w : World) :
    Calls Try.prog 56 #[.iface 76 (.int .u64 n), .iface 63 z] w fun e w' => e = .returned (.iface 76 (.int .u64 n)) ∧ w = w' := by
  go_enter Try.func56, Try.ntmps56
  go_wp2
  go_ret
  exact ⟨rfl, rfl⟩

set_option maxRecDepth 100000 in
set_option maxHeartbeats 1000000 in
theorem co1_iUint_u64_ok (n : Int) (z : Value) (h0 : 0 ≤ n) (h1 : n ≤ 18446744073709551615) (w : World) :
    Calls Try.prog 56 #[.iface 76 (.int .u64 n), .iface 22 z] w (IntPost 22 .u64 w) := by
  go_enter Try.func56, Try.ntmps56
  go_wp2
  go_ret
  refine ⟨_, ?_, ?_, rfl, rfl⟩
  · first | exact (wrap_bounds _ _).1 | (rw [q_u64.1]; omega)
  · first | exact (wrap_bounds _ _).2 | (rw [q_u64.2]; omega)

end Go.Proofs.Ytamekjbdpcflfaa
