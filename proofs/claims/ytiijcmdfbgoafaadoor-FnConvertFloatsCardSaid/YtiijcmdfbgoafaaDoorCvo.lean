/-
  idealIntOverflow of literals' integers: nil, or an error. PRINTED BY wip/tpl/gen_cvt.py.
-/
import Derived.Test.YtiijcmdfbgoafaaDoorCvp
namespace Go.Proofs.YtiijcmdfbgoafaaDoor
open Go.RowKit

set_option linter.unusedVariables false

set_option maxRecDepth 100000 in
set_option maxHeartbeats 1000000 in
theorem ovo_iInt_i8_ok (n : Int) (h1 : -128 ≤ n) (h2 : n ≤ 127) (w : World) : Calls Tryd.prog 61 #[.iface 95 (.int .i64 n), .int .i64 105] w fun e w' => e = .returned .nilIface ∧ w = w' := by
  go_enter Tryd.func61, Tryd.ntmps61
  go_wp2
  go_ret
  exact ⟨rfl, rfl⟩

set_option maxRecDepth 100000 in
set_option maxHeartbeats 1000000 in
theorem ovo_iInt_i8_lo (n : Int) (h0 : -9223372036854775808 ≤ n) (h1 : n < -128) (w : World) : Calls Tryd.prog 61 #[.iface 95 (.int .i64 n), .int .i64 105] w (ErPost w) := by
  go_enter Tryd.func61, Tryd.ntmps61
  go_wp2_with (go_at_call 55; refine (overflow_er _ _ _).mono ?_; rintro e w1 ⟨p, rfl, hE0, hb1⟩; have hE := Lib.hid hE0; clear hE0)
  go_ret
  exact ⟨_, rfl, hE.out, hb1⟩

set_option maxRecDepth 100000 in
set_option maxHeartbeats 1000000 in
theorem ovo_iInt_i8_hi (n : Int) (h1 : 127 < n) (h2 : n ≤ 9223372036854775807) (w : World) : Calls Tryd.prog 61 #[.iface 95 (.int .i64 n), .int .i64 105] w (ErPost w) := by
  go_enter Tryd.func61, Tryd.ntmps61
  go_wp2_with (go_at_call 55; refine (overflow_er _ _ _).mono ?_; rintro e w1 ⟨p, rfl, hE0, hb1⟩; have hE := Lib.hid hE0; clear hE0)
  go_ret
  exact ⟨_, rfl, hE.out, hb1⟩

set_option maxRecDepth 100000 in
set_option maxHeartbeats 1000000 in
theorem ovo_iInt_i16_ok (n : Int) (h1 : -32768 ≤ n) (h2 : n ≤ 32767) (w : World) : Calls Tryd.prog 61 #[.iface 95 (.int .i64 n), .int .i64 106] w fun e w' => e = .returned .nilIface ∧ w = w' := by
  go_enter Tryd.func61, Tryd.ntmps61
  go_wp2
  go_ret
  exact ⟨rfl, rfl⟩

set_option maxRecDepth 100000 in
set_option maxHeartbeats 1000000 in
theorem ovo_iInt_i16_lo (n : Int) (h0 : -9223372036854775808 ≤ n) (h1 : n < -32768) (w : World) : Calls Tryd.prog 61 #[.iface 95 (.int .i64 n), .int .i64 106] w (ErPost w) := by
  go_enter Tryd.func61, Tryd.ntmps61
  go_wp2_with (go_at_call 55; refine (overflow_er _ _ _).mono ?_; rintro e w1 ⟨p, rfl, hE0, hb1⟩; have hE := Lib.hid hE0; clear hE0)
  go_ret
  exact ⟨_, rfl, hE.out, hb1⟩

set_option maxRecDepth 100000 in
set_option maxHeartbeats 1000000 in
theorem ovo_iInt_i16_hi (n : Int) (h1 : 32767 < n) (h2 : n ≤ 9223372036854775807) (w : World) : Calls Tryd.prog 61 #[.iface 95 (.int .i64 n), .int .i64 106] w (ErPost w) := by
  go_enter Tryd.func61, Tryd.ntmps61
  go_wp2_with (go_at_call 55; refine (overflow_er _ _ _).mono ?_; rintro e w1 ⟨p, rfl, hE0, hb1⟩; have hE := Lib.hid hE0; clear hE0)
  go_ret
  exact ⟨_, rfl, hE.out, hb1⟩

set_option maxRecDepth 100000 in
set_option maxHeartbeats 1000000 in
theorem ovo_iInt_i32_ok (n : Int) (h1 : -2147483648 ≤ n) (h2 : n ≤ 2147483647) (w : World) : Calls Tryd.prog 61 #[.iface 95 (.int .i64 n), .int .i64 107] w fun e w' => e = .returned .nilIface ∧ w = w' := by
  go_enter Tryd.func61, Tryd.ntmps61
  go_wp2
  go_ret
  exact ⟨rfl, rfl⟩

set_option maxRecDepth 100000 in
set_option maxHeartbeats 1000000 in
theorem ovo_iInt_i32_lo (n : Int) (h0 : -9223372036854775808 ≤ n) (h1 : n < -2147483648) (w : World) : Calls Tryd.prog 61 #[.iface 95 (.int .i64 n), .int .i64 107] w (ErPost w) := by
  go_enter Tryd.func61, Tryd.ntmps61
  go_wp2_with (go_at_call 55; refine (overflow_er _ _ _).mono ?_; rintro e w1 ⟨p, rfl, hE0, hb1⟩; have hE := Lib.hid hE0; clear hE0)
  go_ret
  exact ⟨_, rfl, hE.out, hb1⟩

set_option maxRecDepth 100000 in
set_option maxHeartbeats 1000000 in
theorem ovo_iInt_i32_hi (n : Int) (h1 : 2147483647 < n) (h2 : n ≤ 9223372036854775807) (w : World) : Calls Tryd.prog 61 #[.iface 95 (.int .i64 n), .int .i64 107] w (ErPost w) := by
  go_enter Tryd.func61, Tryd.ntmps61
  go_wp2_with (go_at_call 55; refine (overflow_er _ _ _).mono ?_; rintro e w1 ⟨p, rfl, hE0, hb1⟩; have hE := Lib.hid hE0; clear hE0)
  go_ret
  exact ⟨_, rfl, hE.out, hb1⟩

set_option maxRecDepth 100000 in
set_option maxHeartbeats 1000000 in
theorem ovo_iInt_i64_ok (n : Int) (h1 : -9223372036854775808 ≤ n) (h2 : n ≤ 9223372036854775807) (w : World) : Calls Tryd.prog 61 #[.iface 95 (.int .i64 n), .int .i64 108] w fun e w' => e = .returned .nilIface ∧ w = w' := by
  go_enter Tryd.func61, Tryd.ntmps61
  go_wp2
  go_ret
  exact ⟨rfl, rfl⟩

set_option maxRecDepth 100000 in
set_option maxHeartbeats 1000000 in
theorem ovo_iInt_u8_ok (n : Int) (h1 : 0 ≤ n) (h2 : n ≤ 255) (w : World) : Calls Tryd.prog 61 #[.iface 95 (.int .i64 n), .int .i64 117] w fun e w' => e = .returned .nilIface ∧ w = w' := by
  have hw0 : IntKind.u64.wrap n = n := wrap_i (by simp [IntKind.min, IntKind.signed]; omega) (by simp [IntKind.max, IntKind.signed, IntKind.bits]; omega)
  go_enter Tryd.func61, Tryd.ntmps61
  go_wp2
  go_ret
  exact ⟨rfl, rfl⟩

set_option maxRecDepth 100000 in
set_option maxHeartbeats 1000000 in
theorem ovo_iInt_u8_lo (n : Int) (h0 : -9223372036854775808 ≤ n) (h1 : n < 0) (w : World) : Calls Tryd.prog 61 #[.iface 95 (.int .i64 n), .int .i64 117] w (ErPost w) := by
  go_enter Tryd.func61, Tryd.ntmps61
  go_wp2_with (go_at_call 55; refine (overflow_er _ _ _).mono ?_; rintro e w1 ⟨p, rfl, hE0, hb1⟩; have hE := Lib.hid hE0; clear hE0)
  go_ret
  exact ⟨_, rfl, hE.out, hb1⟩

set_option maxRecDepth 100000 in
set_option maxHeartbeats 1000000 in
theorem ovo_iInt_u8_hi (n : Int) (h1 : 255 < n) (h2 : n ≤ 9223372036854775807) (w : World) : Calls Tryd.prog 61 #[.iface 95 (.int .i64 n), .int .i64 117] w (ErPost w) := by
  have hw0 : IntKind.u64.wrap n = n := wrap_i (by simp [IntKind.min, IntKind.signed]; omega) (by simp [IntKind.max, IntKind.signed, IntKind.bits]; omega)
  go_enter Tryd.func61, Tryd.ntmps61
  go_wp2_with (go_at_call 55; refine (overflow_er _ _ _).mono ?_; rintro e w1 ⟨p, rfl, hE0, hb1⟩; have hE := Lib.hid hE0; clear hE0)
  go_ret
  exact ⟨_, rfl, hE.out, hb1⟩

set_option maxRecDepth 100000 in
set_option maxHeartbeats 1000000 in
theorem ovo_iInt_u16_ok (n : Int) (h1 : 0 ≤ n) (h2 : n ≤ 65535) (w : World) : Calls Tryd.prog 61 #[.iface 95 (.int .i64 n), .int .i64 118] w fun e w' => e = .returned .nilIface ∧ w = w' := by
  have hw0 : IntKind.u64.wrap n = n := wrap_i (by simp [IntKind.min, IntKind.signed]; omega) (by simp [IntKind.max, IntKind.signed, IntKind.bits]; omega)
  go_enter Tryd.func61, Tryd.ntmps61
  go_wp2
  go_ret
  exact ⟨rfl, rfl⟩

set_option maxRecDepth 100000 in
set_option maxHeartbeats 1000000 in
theorem ovo_iInt_u16_lo (n : Int) (h0 : -9223372036854775808 ≤ n) (h1 : n < 0) (w : World) : Calls Tryd.prog 61 #[.iface 95 (.int .i64 n), .int .i64 118] w (ErPost w) := by
  go_enter Tryd.func61, Tryd.ntmps61
  go_wp2_with (go_at_call 55; refine (overflow_er _ _ _).mono ?_; rintro e w1 ⟨p, rfl, hE0, hb1⟩; have hE := Lib.hid hE0; clear hE0)
  go_ret
  exact ⟨_, rfl, hE.out, hb1⟩

set_option maxRecDepth 100000 in
set_option maxHeartbeats 1000000 in
theorem ovo_iInt_u16_hi (n : Int) (h1 : 65535 < n) (h2 : n ≤ 9223372036854775807) (w : World) : Calls Tryd.prog 61 #[.iface 95 (.int .i64 n), .int .i64 118] w (ErPost w) := by
  have hw0 : IntKind.u64.wrap n = n := wrap_i (by simp [IntKind.min, IntKind.signed]; omega) (by simp [IntKind.max, IntKind.signed, IntKind.bits]; omega)
  go_enter Tryd.func61, Tryd.ntmps61
  go_wp2_with (go_at_call 55; refine (overflow_er _ _ _).mono ?_; rintro e w1 ⟨p, rfl, hE0, hb1⟩; have hE := Lib.hid hE0; clear hE0)
  go_ret
  exact ⟨_, rfl, hE.out, hb1⟩

set_option maxRecDepth 100000 in
set_option maxHeartbeats 1000000 in
theorem ovo_iInt_u32_ok (n : Int) (h1 : 0 ≤ n) (h2 : n ≤ 4294967295) (w : World) : Calls Tryd.prog 61 #[.iface 95 (.int .i64 n), .int .i64 119] w fun e w' => e = .returned .nilIface ∧ w = w' := by
  have hw0 : IntKind.u64.wrap n = n := wrap_i (by simp [IntKind.min, IntKind.signed]; omega) (by simp [IntKind.max, IntKind.signed, IntKind.bits]; omega)
  go_enter Tryd.func61, Tryd.ntmps61
  go_wp2
  go_ret
  exact ⟨rfl, rfl⟩

set_option maxRecDepth 100000 in
set_option maxHeartbeats 1000000 in
theorem ovo_iInt_u32_lo (n : Int) (h0 : -9223372036854775808 ≤ n) (h1 : n < 0) (w : World) : Calls Tryd.prog 61 #[.iface 95 (.int .i64 n), .int .i64 119] w (ErPost w) := by
  go_enter Tryd.func61, Tryd.ntmps61
  go_wp2_with (go_at_call 55; refine (overflow_er _ _ _).mono ?_; rintro e w1 ⟨p, rfl, hE0, hb1⟩; have hE := Lib.hid hE0; clear hE0)
  go_ret
  exact ⟨_, rfl, hE.out, hb1⟩

set_option maxRecDepth 100000 in
set_option maxHeartbeats 1000000 in
theorem ovo_iInt_u32_hi (n : Int) (h1 : 4294967295 < n) (h2 : n ≤ 9223372036854775807) (w : World) : Calls Tryd.prog 61 #[.iface 95 (.int .i64 n), .int .i64 119] w (ErPost w) := by
  have hw0 : IntKind.u64.wrap n = n := wrap_i (by simp [IntKind.min, IntKind.signed]; omega) (by simp [IntKind.max, IntKind.signed, IntKind.bits]; omega)
  go_enter Tryd.func61, Tryd.ntmps61
  go_wp2_with (go_at_call 55; refine (overflow_er _ _ _).mono ?_; rintro e w1 ⟨p, rfl, hE0, hb1⟩; have hE := Lib.hid hE0; clear hE0)
  go_ret
  exact ⟨_, rfl, hE.out, hb1⟩

set_option maxRecDepth 100000 in
set_option maxHeartbeats 1000000 in
theorem ovo_iInt_u64_ok (n : Int) (h1 : 0 ≤ n) (h2 : n ≤ 9223372036854775807) (w : World) : Calls Tryd.prog 61 #[.iface 95 (.int .i64 n), .int .i64 120] w fun e w' => e = .returned .nilIface ∧ w = w' := by
  have hw0 : IntKind.u64.wrap n = n := wrap_i (by simp [IntKind.min, IntKind.signed]; omega) (by simp [IntKind.max, IntKind.signed, IntKind.bits]; omega)
  go_enter Tryd.func61, Tryd.ntmps61
  go_wp2
  go_ret
  exact ⟨rfl, rfl⟩

set_option maxRecDepth 100000 in
set_option maxHeartbeats 1000000 in
theorem ovo_iInt_u64_lo (n : Int) (h0 : -9223372036854775808 ≤ n) (h1 : n < 0) (w : World) : Calls Tryd.prog 61 #[.iface 95 (.int .i64 n), .int .i64 120] w (ErPost w) := by
  go_enter Tryd.func61, Tryd.ntmps61
  go_wp2_with (go_at_call 55; refine (overflow_er _ _ _).mono ?_; rintro e w1 ⟨p, rfl, hE0, hb1⟩; have hE := Lib.hid hE0; clear hE0)
  go_ret
  exact ⟨_, rfl, hE.out, hb1⟩

set_option maxRecDepth 100000 in
set_option maxHeartbeats 1000000 in
theorem ovo_iRune_i8_ok (n : Int) (h1 : -128 ≤ n) (h2 : n ≤ 127) (w : World) : Calls Tryd.prog 61 #[.iface 96 (.int .i32 n), .int .i64 105] w fun e w' => e = .returned .nilIface ∧ w = w' := by
  have hw0 : IntKind.i64.wrap n = n := wrap_i (by simp [IntKind.min, IntKind.signed, IntKind.bits]; omega) (by simp [IntKind.max, IntKind.signed, IntKind.bits]; omega)
  go_enter Tryd.func61, Tryd.ntmps61
  go_wp2
  go_ret
  exact ⟨rfl, rfl⟩

set_option maxRecDepth 100000 in
set_option maxHeartbeats 1000000 in
theorem ovo_iRune_i8_lo (n : Int) (h0 : -2147483648 ≤ n) (h1 : n < -128) (w : World) : Calls Tryd.prog 61 #[.iface 96 (.int .i32 n), .int .i64 105] w (ErPost w) := by
  have hw0 : IntKind.i64.wrap n = n := wrap_i (by simp [IntKind.min, IntKind.signed, IntKind.bits]; omega) (by simp [IntKind.max, IntKind.signed, IntKind.bits]; omega)
  go_enter Tryd.func61, Tryd.ntmps61
  go_wp2_with (go_at_call 55; refine (overflow_er _ _ _).mono ?_; rintro e w1 ⟨p, rfl, hE0, hb1⟩; have hE := Lib.hid hE0; clear hE0)
  go_ret
  exact ⟨_, rfl, hE.out, hb1⟩

set_option maxRecDepth 100000 in
set_option maxHeartbeats 1000000 in
theorem ovo_iRune_i8_hi (n : Int) (h1 : 127 < n) (h2 : n ≤ 2147483647) (w : World) : Calls Tryd.prog 61 #[.iface 96 (.int .i32 n), .int .i64 105] w (ErPost w) := by
  have hw0 : IntKind.i64.wrap n = n := wrap_i (by simp [IntKind.min, IntKind.signed, IntKind.bits]; omega) (by simp [IntKind.max, IntKind.signed, IntKind.bits]; omega)
  go_enter Tryd.func61, Tryd.ntmps61
  go_wp2_with (go_at_call 55; refine (overflow_er _ _ _).mono ?_; rintro e w1 ⟨p, rfl, hE0, hb1⟩; have hE := Lib.hid hE0; clear hE0)
  go_ret
  exact ⟨_, rfl, hE.out, hb1⟩

set_option maxRecDepth 100000 in
set_option maxHeartbeats 1000000 in
theorem ovo_iRune_i16_ok (n : Int) (h1 : -32768 ≤ n) (h2 : n ≤ 32767) (w : World) : Calls Tryd.prog 61 #[.iface 96 (.int .i32 n), .int .i64 106] w fun e w' => e = .returned .nilIface ∧ w = w' := by
  have hw0 : IntKind.i64.wrap n = n := wrap_i (by simp [IntKind.min, IntKind.signed, IntKind.bits]; omega) (by simp [IntKind.max, IntKind.signed, IntKind.bits]; omega)
  go_enter Tryd.func61, Tryd.ntmps61
  go_wp2
  go_ret
  exact ⟨rfl, rfl⟩

set_option maxRecDepth 100000 in
set_option maxHeartbeats 1000000 in
theorem ovo_iRune_i16_lo (n : Int) (h0 : -2147483648 ≤ n) (h1 : n < -32768) (w : World) : Calls Tryd.prog 61 #[.iface 96 (.int .i32 n), .int .i64 106] w (ErPost w) := by
  have hw0 : IntKind.i64.wrap n = n := wrap_i (by simp [IntKind.min, IntKind.signed, IntKind.bits]; omega) (by simp [IntKind.max, IntKind.signed, IntKind.bits]; omega)
  go_enter Tryd.func61, Tryd.ntmps61
  go_wp2_with (go_at_call 55; refine (overflow_er _ _ _).mono ?_; rintro e w1 ⟨p, rfl, hE0, hb1⟩; have hE := Lib.hid hE0; clear hE0)
  go_ret
  exact ⟨_, rfl, hE.out, hb1⟩

set_option maxRecDepth 100000 in
set_option maxHeartbeats 1000000 in
theorem ovo_iRune_i16_hi (n : Int) (h1 : 32767 < n) (h2 : n ≤ 2147483647) (w : World) : Calls Tryd.prog 61 #[.iface 96 (.int .i32 n), .int .i64 106] w (ErPost w) := by
  have hw0 : IntKind.i64.wrap n = n := wrap_i (by simp [IntKind.min, IntKind.signed, IntKind.bits]; omega) (by simp [IntKind.max, IntKind.signed, IntKind.bits]; omega)
  go_enter Tryd.func61, Tryd.ntmps61
  go_wp2_with (go_at_call 55; refine (overflow_er _ _ _).mono ?_; rintro e w1 ⟨p, rfl, hE0, hb1⟩; have hE := Lib.hid hE0; clear hE0)
  go_ret
  exact ⟨_, rfl, hE.out, hb1⟩

set_option maxRecDepth 100000 in
set_option maxHeartbeats 1000000 in
theorem ovo_iRune_i32_ok (n : Int) (h1 : -2147483648 ≤ n) (h2 : n ≤ 2147483647) (w : World) : Calls Tryd.prog 61 #[.iface 96 (.int .i32 n), .int .i64 107] w fun e w' => e = .returned .nilIface ∧ w = w' := by
  have hw0 : IntKind.i64.wrap n = n := wrap_i (by simp [IntKind.min, IntKind.signed, IntKind.bits]; omega) (by simp [IntKind.max, IntKind.signed, IntKind.bits]; omega)
  go_enter Tryd.func61, Tryd.ntmps61
  go_wp2
  go_ret
  exact ⟨rfl, rfl⟩

set_option maxRecDepth 100000 in
set_option maxHeartbeats 1000000 in
theorem ovo_iRune_i64_ok (n : Int) (h1 : -2147483648 ≤ n) (h2 : n ≤ 2147483647) (w : World) : Calls Tryd.prog 61 #[.iface 96 (.int .i32 n), .int .i64 108] w fun e w' => e = .returned .nilIface ∧ w = w' := by
  have hw0 : IntKind.i64.wrap n = n := wrap_i (by simp [IntKind.min, IntKind.signed, IntKind.bits]; omega) (by simp [IntKind.max, IntKind.signed, IntKind.bits]; omega)
  go_enter Tryd.func61, Tryd.ntmps61
  go_wp2
  go_ret
  exact ⟨rfl, rfl⟩

set_option maxRecDepth 100000 in
set_option maxHeartbeats 1000000 in
theorem ovo_iRune_u8_ok (n : Int) (h1 : 0 ≤ n) (h2 : n ≤ 255) (w : World) : Calls Tryd.prog 61 #[.iface 96 (.int .i32 n), .int .i64 117] w fun e w' => e = .returned .nilIface ∧ w = w' := by
  have hw0 : IntKind.i64.wrap n = n := wrap_i (by simp [IntKind.min, IntKind.signed, IntKind.bits]; omega) (by simp [IntKind.max, IntKind.signed, IntKind.bits]; omega)
  have hw1 : IntKind.u64.wrap n = n := wrap_i (by simp [IntKind.min, IntKind.signed]; omega) (by simp [IntKind.max, IntKind.signed, IntKind.bits]; omega)
  go_enter Tryd.func61, Tryd.ntmps61
  go_wp2
  go_ret
  exact ⟨rfl, rfl⟩

set_option maxRecDepth 100000 in
set_option maxHeartbeats 1000000 in
theorem ovo_iRune_u8_lo (n : Int) (h0 : -2147483648 ≤ n) (h1 : n < 0) (w : World) : Calls Tryd.prog 61 #[.iface 96 (.int .i32 n), .int .i64 117] w (ErPost w) := by
  have hw0 : IntKind.i64.wrap n = n := wrap_i (by simp [IntKind.min, IntKind.signed, IntKind.bits]; omega) (by simp [IntKind.max, IntKind.signed, IntKind.bits]; omega)
  go_enter Tryd.func61, Tryd.ntmps61
  go_wp2_with (go_at_call 55; refine (overflow_er _ _ _).mono ?_; rintro e w1 ⟨p, rfl, hE0, hb1⟩; have hE := Lib.hid hE0; clear hE0)
  go_ret
  exact ⟨_, rfl, hE.out, hb1⟩

set_option maxRecDepth 100000 in
set_option maxHeartbeats 1000000 in
theorem ovo_iRune_u8_hi (n : Int) (h1 : 255 < n) (h2 : n ≤ 2147483647) (w : World) : Calls Tryd.prog 61 #[.iface 96 (.int .i32 n), .int .i64 117] w (ErPost w) := by
  have hw0 : IntKind.i64.wrap n = n := wrap_i (by simp [IntKind.min, IntKind.signed, IntKind.bits]; omega) (by simp [IntKind.max, IntKind.signed, IntKind.bits]; omega)
  have hw1 : IntKind.u64.wrap n = n := wrap_i (by simp [IntKind.min, IntKind.signed]; omega) (by simp [IntKind.max, IntKind.signed, IntKind.bits]; omega)
  go_enter Tryd.func61, Tryd.ntmps61
  go_wp2_with (go_at_call 55; refine (overflow_er _ _ _).mono ?_; rintro e w1 ⟨p, rfl, hE0, hb1⟩; have hE := Lib.hid hE0; clear hE0)
  go_ret
  exact ⟨_, rfl, hE.out, hb1⟩

set_option maxRecDepth 100000 in
set_option maxHeartbeats 1000000 in
theorem ovo_iRune_u16_ok (n : Int) (h1 : 0 ≤ n) (h2 : n ≤ 65535) (w : World) : Calls Tryd.prog 61 #[.iface 96 (.int .i32 n), .int .i64 118] w fun e w' => e = .returned .nilIface ∧ w = w' := by
  have hw0 : IntKind.i64.wrap n = n := wrap_i (by simp [IntKind.min, IntKind.signed, IntKind.bits]; omega) (by simp [IntKind.max, IntKind.signed, IntKind.bits]; omega)
  have hw1 : IntKind.u64.wrap n = n := wrap_i (by simp [IntKind.min, IntKind.signed]; omega) (by simp [IntKind.max, IntKind.signed, IntKind.bits]; omega)
  go_enter Tryd.func61, Tryd.ntmps61
  go_wp2
  go_ret
  exact ⟨rfl, rfl⟩

set_option maxRecDepth 100000 in
set_option maxHeartbeats 1000000 in
theorem ovo_iRune_u16_lo (n : Int) (h0 : -2147483648 ≤ n) (h1 : n < 0) (w : World) : Calls Tryd.prog 61 #[.iface 96 (.int .i32 n), .int .i64 118] w (ErPost w) := by
  have hw0 : IntKind.i64.wrap n = n := wrap_i (by simp [IntKind.min, IntKind.signed, IntKind.bits]; omega) (by simp [IntKind.max, IntKind.signed, IntKind.bits]; omega)
  go_enter Tryd.func61, Tryd.ntmps61
  go_wp2_with (go_at_call 55; refine (overflow_er _ _ _).mono ?_; rintro e w1 ⟨p, rfl, hE0, hb1⟩; have hE := Lib.hid hE0; clear hE0)
  go_ret
  exact ⟨_, rfl, hE.out, hb1⟩

set_option maxRecDepth 100000 in
set_option maxHeartbeats 1000000 in
theorem ovo_iRune_u16_hi (n : Int) (h1 : 65535 < n) (h2 : n ≤ 2147483647) (w : World) : Calls Tryd.prog 61 #[.iface 96 (.int .i32 n), .int .i64 118] w (ErPost w) := by
  have hw0 : IntKind.i64.wrap n = n := wrap_i (by simp [IntKind.min, IntKind.signed, IntKind.bits]; omega) (by simp [IntKind.max, IntKind.signed, IntKind.bits]; omega)
  have hw1 : IntKind.u64.wrap n = n := wrap_i (by simp [IntKind.min, IntKind.signed]; omega) (by simp [IntKind.max, IntKind.signed, IntKind.bits]; omega)
  go_enter Tryd.func61, Tryd.ntmps61
  go_wp2_with (go_at_call 55; refine (overflow_er _ _ _).mono ?_; rintro e w1 ⟨p, rfl, hE0, hb1⟩; have hE := Lib.hid hE0; clear hE0)
  go_ret
  exact ⟨_, rfl, hE.out, hb1⟩

set_option maxRecDepth 100000 in
set_option maxHeartbeats 1000000 in
theorem ovo_iRune_u32_ok (n : Int) (h1 : 0 ≤ n) (h2 : n ≤ 2147483647) (w : World) : Calls Tryd.prog 61 #[.iface 96 (.int .i32 n), .int .i64 119] w fun e w' => e = .returned .nilIface ∧ w = w' := by
  have hw0 : IntKind.i64.wrap n = n := wrap_i (by simp [IntKind.min, IntKind.signed, IntKind.bits]; omega) (by simp [IntKind.max, IntKind.signed, IntKind.bits]; omega)
  have hw1 : IntKind.u64.wrap n = n := wrap_i (by simp [IntKind.min, IntKind.signed]; omega) (by simp [IntKind.max, IntKind.signed, IntKind.bits]; omega)
  go_enter Tryd.func61, Tryd.ntmps61
  go_wp2
  go_ret
  exact ⟨rfl, rfl⟩

set_option maxRecDepth 100000 in
set_option maxHeartbeats 1000000 in
theorem ovo_iRune_u32_lo (n : Int) (h0 : -2147483648 ≤ n) (h1 : n < 0) (w : World) : Calls Tryd.prog 61 #[.iface 96 (.int .i32 n), .int .i64 119] w (ErPost w) := by
  have hw0 : IntKind.i64.wrap n = n := wrap_i (by simp [IntKind.min, IntKind.signed, IntKind.bits]; omega) (by simp [IntKind.max, IntKind.signed, IntKind.bits]; omega)
  go_enter Tryd.func61, Tryd.ntmps61
  go_wp2_with (go_at_call 55; refine (overflow_er _ _ _).mono ?_; rintro e w1 ⟨p, rfl, hE0, hb1⟩; have hE := Lib.hid hE0; clear hE0)
  go_ret
  exact ⟨_, rfl, hE.out, hb1⟩

set_option maxRecDepth 100000 in
set_option maxHeartbeats 1000000 in
theorem ovo_iRune_u64_ok (n : Int) (h1 : 0 ≤ n) (h2 : n ≤ 2147483647) (w : World) : Calls Tryd.prog 61 #[.iface 96 (.int .i32 n), .int .i64 120] w fun e w' => e = .returned .nilIface ∧ w = w' := by
  have hw0 : IntKind.i64.wrap n = n := wrap_i (by simp [IntKind.min, IntKind.signed, IntKind.bits]; omega) (by simp [IntKind.max, IntKind.signed, IntKind.bits]; omega)
  have hw1 : IntKind.u64.wrap n = n := wrap_i (by simp [IntKind.min, IntKind.signed]; omega) (by simp [IntKind.max, IntKind.signed, IntKind.bits]; omega)
  go_enter Tryd.func61, Tryd.ntmps61
  go_wp2
  go_ret
  exact ⟨rfl, rfl⟩

set_option maxRecDepth 100000 in
set_option maxHeartbeats 1000000 in
theorem ovo_iRune_u64_lo (n : Int) (h0 : -2147483648 ≤ n) (h1 : n < 0) (w : World) : Calls Tryd.prog 61 #[.iface 96 (.int .i32 n), .int .i64 120] w (ErPost w) := by
  have hw0 : IntKind.i64.wrap n = n := wrap_i (by simp [IntKind.min, IntKind.signed, IntKind.bits]; omega) (by simp [IntKind.max, IntKind.signed, IntKind.bits]; omega)
  go_enter Tryd.func61, Tryd.ntmps61
  go_wp2_with (go_at_call 55; refine (overflow_er _ _ _).mono ?_; rintro e w1 ⟨p, rfl, hE0, hb1⟩; have hE := Lib.hid hE0; clear hE0)
  go_ret
  exact ⟨_, rfl, hE.out, hb1⟩

set_option maxRecDepth 100000 in
set_option maxHeartbeats 1000000 in
theorem ovo_iUint_i8_ok (n : Int) (h1 : 0 ≤ n) (h2 : n ≤ 127) (w : World) : Calls Tryd.prog 61 #[.iface 97 (.int .u64 n), .int .i64 105] w fun e w' => e = .returned .nilIface ∧ w = w' := by
  go_enter Tryd.func61, Tryd.ntmps61
  go_wp2
  go_ret
  exact ⟨rfl, rfl⟩

set_option maxRecDepth 100000 in
set_option maxHeartbeats 1000000 in
theorem ovo_iUint_i8_hi (n : Int) (h1 : 127 < n) (h2 : n ≤ 18446744073709551615) (w : World) : Calls Tryd.prog 61 #[.iface 97 (.int .u64 n), .int .i64 105] w (ErPost w) := by
  go_enter Tryd.func61, Tryd.ntmps61
  go_wp2_with (go_at_call 55; refine (overflow_er _ _ _).mono ?_; rintro e w1 ⟨p, rfl, hE0, hb1⟩; have hE := Lib.hid hE0; clear hE0)
  go_ret
  exact ⟨_, rfl, hE.out, hb1⟩

set_option maxRecDepth 100000 in
set_option maxHeartbeats 1000000 in
theorem ovo_iUint_i16_ok (n : Int) (h1 : 0 ≤ n) (h2 : n ≤ 32767) (w : World) : Calls Tryd.prog 61 #[.iface 97 (.int .u64 n), .int .i64 106] w fun e w' => e = .returned .nilIface ∧ w = w' := by
  go_enter Tryd.func61, Tryd.ntmps61
  go_wp2
  go_ret
  exact ⟨rfl, rfl⟩

set_option maxRecDepth 100000 in
set_option maxHeartbeats 1000000 in
theorem ovo_iUint_i16_hi (n : Int) (h1 : 32767 < n) (h2 : n ≤ 18446744073709551615) (w : World) : Calls Tryd.prog 61 #[.iface 97 (.int .u64 n), .int .i64 106] w (ErPost w) := by
  go_enter Tryd.func61, Tryd.ntmps61
  go_wp2_with (go_at_call 55; refine (overflow_er _ _ _).mono ?_; rintro e w1 ⟨p, rfl, hE0, hb1⟩; have hE := Lib.hid hE0; clear hE0)
  go_ret
  exact ⟨_, rfl, hE.out, hb1⟩

set_option maxRecDepth 100000 in
set_option maxHeartbeats 1000000 in
theorem ovo_iUint_i32_ok (n : Int) (h1 : 0 ≤ n) (h2 : n ≤ 2147483647) (w : World) : Calls Tryd.prog 61 #[.iface 97 (.int .u64 n), .int .i64 107] w fun e w' => e = .returned .nilIface ∧ w = w' := by
  go_enter Tryd.func61, Tryd.ntmps61
  go_wp2
  go_ret
  exact ⟨rfl, rfl⟩

set_option maxRecDepth 100000 in
set_option maxHeartbeats 1000000 in
theorem ovo_iUint_i32_hi (n : Int) (h1 : 2147483647 < n) (h2 : n ≤ 18446744073709551615) (w : World) : Calls Tryd.prog 61 #[.iface 97 (.int .u64 n), .int .i64 107] w (ErPost w) := by
  go_enter Tryd.func61, Tryd.ntmps61
  go_wp2_with (go_at_call 55; refine (overflow_er _ _ _).mono ?_; rintro e w1 ⟨p, rfl, hE0, hb1⟩; have hE := Lib.hid hE0; clear hE0)
  go_ret
  exact ⟨_, rfl, hE.out, hb1⟩

set_option maxRecDepth 100000 in
set_option maxHeartbeats 1000000 in
theorem ovo_iUint_i64_ok (n : Int) (h1 : 0 ≤ n) (h2 : n ≤ 9223372036854775807) (w : World) : Calls Tryd.prog 61 #[.iface 97 (.int .u64 n), .int .i64 108] w fun e w' => e = .returned .nilIface ∧ w = w' := by
  go_enter Tryd.func61, Tryd.ntmps61
  go_wp2
  go_ret
  exact ⟨rfl, rfl⟩

set_option maxRecDepth 100000 in
set_option maxHeartbeats 1000000 in
theorem ovo_iUint_i64_hi (n : Int) (h1 : 9223372036854775807 < n) (h2 : n ≤ 18446744073709551615) (w : World) : Calls Tryd.prog 61 #[.iface 97 (.int .u64 n), .int .i64 108] w (ErPost w) := by
  go_enter Tryd.func61, Tryd.ntmps61
  go_wp2_with (go_at_call 55; refine (overflow_er _ _ _).mono ?_; rintro e w1 ⟨p, rfl, hE0, hb1⟩; have hE := Lib.hid hE0; clear hE0)
  go_ret
  exact ⟨_, rfl, hE.out, hb1⟩

set_option maxRecDepth 100000 in
set_option maxHeartbeats 1000000 in
theorem ovo_iUint_u8_ok (n : Int) (h1 : 0 ≤ n) (h2 : n ≤ 255) (w : World) : Calls Tryd.prog 61 #[.iface 97 (.int .u64 n), .int .i64 117] w fun e w' => e = .returned .nilIface ∧ w = w' := by
  go_enter Tryd.func61, Tryd.ntmps61
  go_wp2
  go_ret
  exact ⟨rfl, rfl⟩

set_option maxRecDepth 100000 in
set_option maxHeartbeats 1000000 in
theorem ovo_iUint_u8_hi (n : Int) (h1 : 255 < n) (h2 : n ≤ 18446744073709551615) (w : World) : Calls Tryd.prog 61 #[.iface 97 (.int .u64 n), .int .i64 117] w (ErPost w) := by
  go_enter Tryd.func61, Tryd.ntmps61
  go_wp2_with (go_at_call 55; refine (overflow_er _ _ _).mono ?_; rintro e w1 ⟨p, rfl, hE0, hb1⟩; have hE := Lib.hid hE0; clear hE0)
  go_ret
  exact ⟨_, rfl, hE.out, hb1⟩

set_option maxRecDepth 100000 in
set_option maxHeartbeats 1000000 in
theorem ovo_iUint_u16_ok (n : Int) (h1 : 0 ≤ n) (h2 : n ≤ 65535) (w : World) : Calls Tryd.prog 61 #[.iface 97 (.int .u64 n), .int .i64 118] w fun e w' => e = .returned .nilIface ∧ w = w' := by
  go_enter Tryd.func61, Tryd.ntmps61
  go_wp2
  go_ret
  exact ⟨rfl, rfl⟩

set_option maxRecDepth 100000 in
set_option maxHeartbeats 1000000 in
theorem ovo_iUint_u16_hi (n : Int) (h1 : 65535 < n) (h2 : n ≤ 18446744073709551615) (w : World) : Calls Tryd.prog 61 #[.iface 97 (.int .u64 n), .int .i64 118] w (ErPost w) := by
  go_enter Tryd.func61, Tryd.ntmps61
  go_wp2_with (go_at_call 55; refine (overflow_er _ _ _).mono ?_; rintro e w1 ⟨p, rfl, hE0, hb1⟩; have hE := Lib.hid hE0; clear hE0)
  go_ret
  exact ⟨_, rfl, hE.out, hb1⟩

set_option maxRecDepth 100000 in
set_option maxHeartbeats 1000000 in
theorem ovo_iUint_u32_ok (n : Int) (h1 : 0 ≤ n) (h2 : n ≤ 4294967295) (w : World) : Calls Tryd.prog 61 #[.iface 97 (.int .u64 n), .int .i64 119] w fun e w' => e = .returned .nilIface ∧ w = w' := by
  go_enter Tryd.func61, Tryd.ntmps61
  go_wp2
  go_ret
  exact ⟨rfl, rfl⟩

set_option maxRecDepth 100000 in
set_option maxHeartbeats 1000000 in
theorem ovo_iUint_u32_hi (n : Int) (h1 : 4294967295 < n) (h2 : n ≤ 18446744073709551615) (w : World) : Calls Tryd.prog 61 #[.iface 97 (.int .u64 n), .int .i64 119] w (ErPost w) := by
  go_enter Tryd.func61, Tryd.ntmps61
  go_wp2_with (go_at_call 55; refine (overflow_er _ _ _).mono ?_; rintro e w1 ⟨p, rfl, hE0, hb1⟩; have hE := Lib.hid hE0; clear hE0)
  go_ret
  exact ⟨_, rfl, hE.out, hb1⟩

set_option maxRecDepth 100000 in
set_option maxHeartbeats 1000000 in
theorem ovo_iUint_u64_ok (n : Int) (h1 : 0 ≤ n) (h2 : n ≤ 18446744073709551615) (w : World) : Calls Tryd.prog 61 #[.iface 97 (.int .u64 n), .int .i64 120] w fun e w' => e = .returned .nilIface ∧ w = w' := by
  go_enter Tryd.func61, Tryd.ntmps61
  go_wp2
  go_ret
  exact ⟨rfl, rfl⟩

set_option maxRecDepth 100000 in
set_option maxHeartbeats 1000000 in
theorem ovo_bool (b : Bool) (t : Int) (w : World) : Calls Tryd.prog 61 #[.iface 4 (.bool b), .int .i64 t] w fun e w' => e = .returned .nilIface ∧ w = w' := by
  go_enter Tryd.func61, Tryd.ntmps61
  go_wp2
  go_ret
  exact ⟨rfl, rfl⟩

set_option maxRecDepth 100000 in
set_option maxHeartbeats 1000000 in
theorem ovo_i8 (n : Int) (t : Int) (w : World) : Calls Tryd.prog 61 #[.iface 74 (.int .i8 n), .int .i64 t] w fun e w' => e = .returned .nilIface ∧ w = w' := by
  go_enter Tryd.func61, Tryd.ntmps61
  go_wp2
  go_ret
  exact ⟨rfl, rfl⟩

set_option maxRecDepth 100000 in
set_option maxHeartbeats 1000000 in
theorem ovo_i16 (n : Int) (t : Int) (w : World) : Calls Tryd.prog 61 #[.iface 75 (.int .i16 n), .int .i64 t] w fun e w' => e = .returned .nilIface ∧ w = w' := by
  go_enter Tryd.func61, Tryd.ntmps61
  go_wp2
  go_ret
  exact ⟨rfl, rfl⟩

set_option maxRecDepth 100000 in
set_option maxHeartbeats 1000000 in
theorem ovo_i32 (n : Int) (t : Int) (w : World) : Calls Tryd.prog 61 #[.iface 21 (.int .i32 n), .int .i64 t] w fun e w' => e = .returned .nilIface ∧ w = w' := by
  go_enter Tryd.func61, Tryd.ntmps61
  go_wp2
  go_ret
  exact ⟨rfl, rfl⟩

set_option maxRecDepth 100000 in
set_option maxHeartbeats 1000000 in
theorem ovo_i64 (n : Int) (t : Int) (w : World) : Calls Tryd.prog 61 #[.iface 2 (.int .i64 n), .int .i64 t] w fun e w' => e = .returned .nilIface ∧ w = w' := by
  go_enter Tryd.func61, Tryd.ntmps61
  go_wp2
  go_ret
  exact ⟨rfl, rfl⟩

set_option maxRecDepth 100000 in
set_option maxHeartbeats 1000000 in
theorem ovo_u8 (n : Int) (t : Int) (w : World) : Calls Tryd.prog 61 #[.iface 5 (.int .u8 n), .int .i64 t] w fun e w' => e = .returned .nilIface ∧ w = w' := by
  go_enter Tryd.func61, Tryd.ntmps61
  go_wp2
  go_ret
  exact ⟨rfl, rfl⟩

set_option maxRecDepth 100000 in
set_option maxHeartbeats 1000000 in
theorem ovo_u16 (n : Int) (t : Int) (w : World) : Calls Tryd.prog 61 #[.iface 76 (.int .u16 n), .int .i64 t] w fun e w' => e = .returned .nilIface ∧ w = w' := by
  go_enter Tryd.func61, Tryd.ntmps61
  go_wp2
  go_ret
  exact ⟨rfl, rfl⟩

set_option maxRecDepth 100000 in
set_option maxHeartbeats 1000000 in
theorem ovo_u32 (n : Int) (t : Int) (w : World) : Calls Tryd.prog 61 #[.iface 77 (.int .u32 n), .int .i64 t] w fun e w' => e = .returned .nilIface ∧ w = w' := by
  go_enter Tryd.func61, Tryd.ntmps61
  go_wp2
  go_ret
  exact ⟨rfl, rfl⟩

set_option maxRecDepth 100000 in
set_option maxHeartbeats 1000000 in
theorem ovo_u64 (n : Int) (t : Int) (w : World) : Calls Tryd.prog 61 #[.iface 27 (.int .u64 n), .int .i64 t] w fun e w' => e = .returned .nilIface ∧ w = w' := by
  go_enter Tryd.func61, Tryd.ntmps61
  go_wp2
  go_ret
  exact ⟨rfl, rfl⟩

set_option maxRecDepth 100000 in
set_option maxHeartbeats 1000000 in
theorem ovo_f32 (x : Nat) (t : Int) (w : World) : Calls Tryd.prog 61 #[.iface 37 (.float .f32 x), .int .i64 t] w fun e w' => e = .returned .nilIface ∧ w = w' := by
  go_enter Tryd.func61, Tryd.ntmps61
  go_wp2
  go_ret
  exact ⟨rfl, rfl⟩

set_option maxRecDepth 100000 in
set_option maxHeartbeats 1000000 in
theorem ovo_f64 (x : Nat) (t : Int) (w : World) : Calls Tryd.prog 61 #[.iface 28 (.float .f64 x), .int .i64 t] w fun e w' => e = .returned .nilIface ∧ w = w' := by
  go_enter Tryd.func61, Tryd.ntmps61
  go_wp2
  go_ret
  exact ⟨rfl, rfl⟩

set_option maxRecDepth 100000 in
set_option maxHeartbeats 1000000 in
theorem ovo_str (s : ByteArray) (t : Int) (w : World) : Calls Tryd.prog 61 #[.iface 9 (.string s), .int .i64 t] w fun e w' => e = .returned .nilIface ∧ w = w' := by
  go_enter Tryd.func61, Tryd.ntmps61
  go_wp2
  go_ret
  exact ⟨rfl, rfl⟩

set_option maxRecDepth 100000 in
set_option maxHeartbeats 1000000 in
theorem ovo_blob (a : Addr) (l : List UInt8) (cap : Nat) (t : Int) (w : World) : Calls Tryd.prog 61 #[.iface 78 (.slice (some a) l.length cap), .int .i64 t] w fun e w' => e = .returned .nilIface ∧ w = w' := by
  go_enter Tryd.func61, Tryd.ntmps61
  go_wp2
  go_ret
  exact ⟨rfl, rfl⟩

set_option maxRecDepth 100000 in
set_option maxHeartbeats 1000000 in
theorem ovo_iFloat (x : Nat) (t : Int) (w : World) : Calls Tryd.prog 61 #[.iface 91 (.float .f64 x), .int .i64 t] w fun e w' => e = .returned .nilIface ∧ w = w' := by
  go_enter Tryd.func61, Tryd.ntmps61
  go_wp2
  go_ret
  exact ⟨rfl, rfl⟩

set_option maxRecDepth 100000 in
set_option maxHeartbeats 1000000 in
theorem ovo_iInt_bool (n : Int) (w : World) : Calls Tryd.prog 61 #[.iface 95 (.int .i64 n), .int .i64 98] w fun e w' => e = .returned .nilIface ∧ w = w' := by
  go_enter Tryd.func61, Tryd.ntmps61
  go_wp2
  go_ret
  exact ⟨rfl, rfl⟩

set_option maxRecDepth 100000 in
set_option maxHeartbeats 1000000 in
theorem ovo_iInt_f32 (n : Int) (w : World) : Calls Tryd.prog 61 #[.iface 95 (.int .i64 n), .int .i64 102] w fun e w' => e = .returned .nilIface ∧ w = w' := by
  go_enter Tryd.func61, Tryd.ntmps61
  go_wp2
  go_ret
  exact ⟨rfl, rfl⟩

set_option maxRecDepth 100000 in
set_option maxHeartbeats 1000000 in
theorem ovo_iInt_f64 (n : Int) (w : World) : Calls Tryd.prog 61 #[.iface 95 (.int .i64 n), .int .i64 103] w fun e w' => e = .returned .nilIface ∧ w = w' := by
  go_enter Tryd.func61, Tryd.ntmps61
  go_wp2
  go_ret
  exact ⟨rfl, rfl⟩

set_option maxRecDepth 100000 in
set_option maxHeartbeats 1000000 in
theorem ovo_iInt_str (n : Int) (w : World) : Calls Tryd.prog 61 #[.iface 95 (.int .i64 n), .int .i64 115] w fun e w' => e = .returned .nilIface ∧ w = w' := by
  go_enter Tryd.func61, Tryd.ntmps61
  go_wp2
  go_ret
  exact ⟨rfl, rfl⟩

set_option maxRecDepth 100000 in
set_option maxHeartbeats 1000000 in
theorem ovo_iInt_blob (n : Int) (w : World) : Calls Tryd.prog 61 #[.iface 95 (.int .i64 n), .int .i64 66] w fun e w' => e = .returned .nilIface ∧ w = w' := by
  go_enter Tryd.func61, Tryd.ntmps61
  go_wp2
  go_ret
  exact ⟨rfl, rfl⟩

set_option maxRecDepth 100000 in
set_option maxHeartbeats 1000000 in
theorem ovo_iRune_bool (n : Int) (w : World) : Calls Tryd.prog 61 #[.iface 96 (.int .i32 n), .int .i64 98] w fun e w' => e = .returned .nilIface ∧ w = w' := by
  go_enter Tryd.func61, Tryd.ntmps61
  go_wp2
  go_ret
  exact ⟨rfl, rfl⟩

set_option maxRecDepth 100000 in
set_option maxHeartbeats 1000000 in
theorem ovo_iRune_f32 (n : Int) (w : World) : Calls Tryd.prog 61 #[.iface 96 (.int .i32 n), .int .i64 102] w fun e w' => e = .returned .nilIface ∧ w = w' := by
  go_enter Tryd.func61, Tryd.ntmps61
  go_wp2
  go_ret
  exact ⟨rfl, rfl⟩

set_option maxRecDepth 100000 in
set_option maxHeartbeats 1000000 in
theorem ovo_iRune_f64 (n : Int) (w : World) : Calls Tryd.prog 61 #[.iface 96 (.int .i32 n), .int .i64 103] w fun e w' => e = .returned .nilIface ∧ w = w' := by
  go_enter Tryd.func61, Tryd.ntmps61
  go_wp2
  go_ret
  exact ⟨rfl, rfl⟩

set_option maxRecDepth 100000 in
set_option maxHeartbeats 1000000 in
theorem ovo_iRune_str (n : Int) (w : World) : Calls Tryd.prog 61 #[.iface 96 (.int .i32 n), .int .i64 115] w fun e w' => e = .returned .nilIface ∧ w = w' := by
  go_enter Tryd.func61, Tryd.ntmps61
  go_wp2
  go_ret
  exact ⟨rfl, rfl⟩

set_option maxRecDepth 100000 in
set_option maxHeartbeats 1000000 in
theorem ovo_iRune_blob (n : Int) (w : World) : Calls Tryd.prog 61 #[.iface 96 (.int .i32 n), .int .i64 66] w fun e w' => e = .returned .nilIface ∧ w = w' := by
  go_enter Tryd.func61, Tryd.ntmps61
  go_wp2
  go_ret
  exact ⟨rfl, rfl⟩

set_option maxRecDepth 100000 in
set_option maxHeartbeats 1000000 in
theorem ovo_iUint_bool (n : Int) (w : World) : Calls Tryd.prog 61 #[.iface 97 (.int .u64 n), .int .i64 98] w fun e w' => e = .returned .nilIface ∧ w = w' := by
  go_enter Tryd.func61, Tryd.ntmps61
  go_wp2
  go_ret
  exact ⟨rfl, rfl⟩

set_option maxRecDepth 100000 in
set_option maxHeartbeats 1000000 in
theorem ovo_iUint_f32 (n : Int) (w : World) : Calls Tryd.prog 61 #[.iface 97 (.int .u64 n), .int .i64 102] w fun e w' => e = .returned .nilIface ∧ w = w' := by
  go_enter Tryd.func61, Tryd.ntmps61
  go_wp2
  go_ret
  exact ⟨rfl, rfl⟩

set_option maxRecDepth 100000 in
set_option maxHeartbeats 1000000 in
theorem ovo_iUint_f64 (n : Int) (w : World) : Calls Tryd.prog 61 #[.iface 97 (.int .u64 n), .int .i64 103] w fun e w' => e = .returned .nilIface ∧ w = w' := by
  go_enter Tryd.func61, Tryd.ntmps61
  go_wp2
  go_ret
  exact ⟨rfl, rfl⟩

set_option maxRecDepth 100000 in
set_option maxHeartbeats 1000000 in
theorem ovo_iUint_str (n : Int) (w : World) : Calls Tryd.prog 61 #[.iface 97 (.int .u64 n), .int .i64 115] w fun e w' => e = .returned .nilIface ∧ w = w' := by
  go_enter Tryd.func61, Tryd.ntmps61
  go_wp2
  go_ret
  exact ⟨rfl, rfl⟩

set_option maxRecDepth 100000 in
set_option maxHeartbeats 1000000 in
theorem ovo_iUint_blob (n : Int) (w : World) : Calls Tryd.prog 61 #[.iface 97 (.int .u64 n), .int .i64 66] w fun e w' => e = .returned .nilIface ∧ w = w' := by
  go_enter Tryd.func61, Tryd.ntmps61
  go_wp2
  go_ret
  exact ⟨rfl, rfl⟩

end Go.Proofs.YtiijcmdfbgoafaaDoor
