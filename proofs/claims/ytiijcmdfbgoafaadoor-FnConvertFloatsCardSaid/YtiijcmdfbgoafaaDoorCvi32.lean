/-
  ql.convert to the type i32, of a value of each other type. PRINTED BY wip/tpl/gen_cvt.py.
-/
import Derived.Test.YtiijcmdfbgoafaaDoorCvo
namespace Go.Proofs.YtiijcmdfbgoafaaDoor
open Go.RowKit

set_option maxRecDepth 100000 in
set_option maxHeartbeats 1000000 in
theorem cv_i32_bool (b : Bool) (w : World) : Calls Tryd.prog 57 #[.iface 4 (.bool b), .int .i64 107] w (CvNo w) := by
  go_enter Tryd.func57, Tryd.ntmps57
  go_wp2_with (first | (go_at_call 61; refine (ovo_bool b _ _).mono ?_; rintro e w0 ⟨rfl, rfl⟩) | (go_at_call 62; refine (invConv_er _ _ _).mono ?_; rintro e w1 ⟨p, rfl, hE0, hb1⟩; have hE := Lib.hid hE0; clear hE0))
  go_ret2
  exact ⟨p, rfl, hE.out, hb1⟩

set_option maxRecDepth 100000 in
set_option maxHeartbeats 1000000 in
theorem cv_i32_i8 (n : Int) (w : World) : Calls Tryd.prog 57 #[.iface 74 (.int .i8 n), .int .i64 107] w fun e w' => e = .returned (.tuple #[.iface 21 (.int .i32 (wrap32 n)), .nilIface]) ∧ w = w' := by
  go_enter Tryd.func57, Tryd.ntmps57
  go_wp2_with (go_at_call 61; refine (ovo_i8 n _ _).mono ?_; rintro e w0 ⟨rfl, rfl⟩)
  go_ret2
  exact ⟨rfl, rfl⟩

set_option maxRecDepth 100000 in
set_option maxHeartbeats 1000000 in
theorem cv_i32_i16 (n : Int) (w : World) : Calls Tryd.prog 57 #[.iface 75 (.int .i16 n), .int .i64 107] w fun e w' => e = .returned (.tuple #[.iface 21 (.int .i32 (wrap32 n)), .nilIface]) ∧ w = w' := by
  go_enter Tryd.func57, Tryd.ntmps57
  go_wp2_with (go_at_call 61; refine (ovo_i16 n _ _).mono ?_; rintro e w0 ⟨rfl, rfl⟩)
  go_ret2
  exact ⟨rfl, rfl⟩

set_option maxRecDepth 100000 in
set_option maxHeartbeats 1000000 in
theorem cv_i32_i32 (n : Int) (w : World) : Calls Tryd.prog 57 #[.iface 21 (.int .i32 n), .int .i64 107] w fun e w' => e = .returned (.tuple #[.iface 21 (.int .i32 n), .nilIface]) ∧ w = w' := by
  go_enter Tryd.func57, Tryd.ntmps57
  go_wp2_with (go_at_call 61; refine (ovo_i32 n _ _).mono ?_; rintro e w0 ⟨rfl, rfl⟩)
  go_ret2
  exact ⟨rfl, rfl⟩

set_option maxRecDepth 100000 in
set_option maxHeartbeats 1000000 in
theorem cv_i32_i64 (n : Int) (w : World) : Calls Tryd.prog 57 #[.iface 2 (.int .i64 n), .int .i64 107] w fun e w' => e = .returned (.tuple #[.iface 21 (.int .i32 (wrap32 n)), .nilIface]) ∧ w = w' := by
  go_enter Tryd.func57, Tryd.ntmps57
  go_wp2_with (go_at_call 61; refine (ovo_i64 n _ _).mono ?_; rintro e w0 ⟨rfl, rfl⟩)
  go_ret2
  exact ⟨rfl, rfl⟩

set_option maxRecDepth 100000 in
set_option maxHeartbeats 1000000 in
theorem cv_i32_u8 (n : Int) (w : World) : Calls Tryd.prog 57 #[.iface 5 (.int .u8 n), .int .i64 107] w fun e w' => e = .returned (.tuple #[.iface 21 (.int .i32 (wrap32 n)), .nilIface]) ∧ w = w' := by
  go_enter Tryd.func57, Tryd.ntmps57
  go_wp2_with (go_at_call 61; refine (ovo_u8 n _ _).mono ?_; rintro e w0 ⟨rfl, rfl⟩)
  go_ret2
  exact ⟨rfl, rfl⟩

set_option maxRecDepth 100000 in
set_option maxHeartbeats 1000000 in
theorem cv_i32_u16 (n : Int) (w : World) : Calls Tryd.prog 57 #[.iface 76 (.int .u16 n), .int .i64 107] w fun e w' => e = .returned (.tuple #[.iface 21 (.int .i32 (wrap32 n)), .nilIface]) ∧ w = w' := by
  go_enter Tryd.func57, Tryd.ntmps57
  go_wp2_with (go_at_call 61; refine (ovo_u16 n _ _).mono ?_; rintro e w0 ⟨rfl, rfl⟩)
  go_ret2
  exact ⟨rfl, rfl⟩

set_option maxRecDepth 100000 in
set_option maxHeartbeats 1000000 in
theorem cv_i32_u32 (n : Int) (w : World) : Calls Tryd.prog 57 #[.iface 77 (.int .u32 n), .int .i64 107] w fun e w' => e = .returned (.tuple #[.iface 21 (.int .i32 (wrap32 n)), .nilIface]) ∧ w = w' := by
  go_enter Tryd.func57, Tryd.ntmps57
  go_wp2_with (go_at_call 61; refine (ovo_u32 n _ _).mono ?_; rintro e w0 ⟨rfl, rfl⟩)
  go_ret2
  exact ⟨rfl, rfl⟩

set_option maxRecDepth 100000 in
set_option maxHeartbeats 1000000 in
theorem cv_i32_u64 (n : Int) (w : World) : Calls Tryd.prog 57 #[.iface 27 (.int .u64 n), .int .i64 107] w fun e w' => e = .returned (.tuple #[.iface 21 (.int .i32 (wrap32 n)), .nilIface]) ∧ w = w' := by
  go_enter Tryd.func57, Tryd.ntmps57
  go_wp2_with (go_at_call 61; refine (ovo_u64 n _ _).mono ?_; rintro e w0 ⟨rfl, rfl⟩)
  go_ret2
  exact ⟨rfl, rfl⟩

set_option maxRecDepth 100000 in
set_option maxHeartbeats 1000000 in
theorem cv_i32_f32 (x : Nat) (w : World) : Calls Tryd.prog 57 #[.iface 37 (.float .f32 x), .int .i64 107] w fun e w' => e = .returned (.tuple #[.iface 21 (.int .i32 (fti .f32 x .i32 w)), .nilIface]) ∧ w' = w.drewN (ftiN .f32 x .i32) := by
  have c1 := fun W => run_fti 37 21 .f32 .i32 x (by rw [Tryd.underlying37]; rfl) Tryd.underlying21 W
  go_enter Tryd.func57, Tryd.ntmps57
  go_wp2_with (go_at_call 61; refine (ovo_f32 x _ _).mono ?_; rintro e w0 ⟨rfl, rfl⟩)
  go_ret2
  exact ⟨rfl, rfl⟩

set_option maxRecDepth 100000 in
set_option maxHeartbeats 1000000 in
theorem cv_i32_f64 (x : Nat) (w : World) : Calls Tryd.prog 57 #[.iface 28 (.float .f64 x), .int .i64 107] w fun e w' => e = .returned (.tuple #[.iface 21 (.int .i32 (fti .f64 x .i32 w)), .nilIface]) ∧ w' = w.drewN (ftiN .f64 x .i32) := by
  have c1 := fun W => run_fti 28 21 .f64 .i32 x (by rw [Tryd.underlying28]; rfl) Tryd.underlying21 W
  go_enter Tryd.func57, Tryd.ntmps57
  go_wp2_with (go_at_call 61; refine (ovo_f64 x _ _).mono ?_; rintro e w0 ⟨rfl, rfl⟩)
  go_ret2
  exact ⟨rfl, rfl⟩

set_option maxRecDepth 100000 in
set_option maxHeartbeats 1000000 in
theorem cv_i32_str (s : ByteArray) (w : World) : Calls Tryd.prog 57 #[.iface 9 (.string s), .int .i64 107] w (CvNo w) := by
  go_enter Tryd.func57, Tryd.ntmps57
  go_wp2_with (first | (go_at_call 61; refine (ovo_str s _ _).mono ?_; rintro e w0 ⟨rfl, rfl⟩) | (go_at_call 62; refine (invConv_er _ _ _).mono ?_; rintro e w1 ⟨p, rfl, hE0, hb1⟩; have hE := Lib.hid hE0; clear hE0))
  go_ret2
  exact ⟨p, rfl, hE.out, hb1⟩

set_option maxRecDepth 100000 in
set_option maxHeartbeats 1000000 in
theorem cv_i32_blob (a : Addr) (l : List UInt8) (cap : Nat) (w : World) : Calls Tryd.prog 57 #[.iface 78 (.slice (some a) l.length cap), .int .i64 107] w (CvNo w) := by
  go_enter Tryd.func57, Tryd.ntmps57
  go_wp2_with (first | (go_at_call 61; refine (ovo_blob a l cap _ _).mono ?_; rintro e w0 ⟨rfl, rfl⟩) | (go_at_call 62; refine (invConv_er _ _ _).mono ?_; rintro e w1 ⟨p, rfl, hE0, hb1⟩; have hE := Lib.hid hE0; clear hE0))
  go_ret2
  exact ⟨p, rfl, hE.out, hb1⟩

set_option maxRecDepth 100000 in
set_option maxHeartbeats 1000000 in
theorem cv_i32_iInt_ok (n : Int) (h1 : -2147483648 ≤ n) (h2 : n ≤ 2147483647) (w : World) : Calls Tryd.prog 57 #[.iface 95 (.int .i64 n), .int .i64 107] w fun e w' => e = .returned (.tuple #[.iface 21 (.int .i32 (wrap32 n)), .nilIface]) ∧ w = w' := by
  have HO := Lib.hid (fun w => ovo_iInt_i32_ok n h1 h2 w)
  clear h1 h2
  go_enter Tryd.func57, Tryd.ntmps57
  go_wp2_with (go_at_call 61; refine (HO.out _).mono ?_; rintro e w1 ⟨rfl, rfl⟩)
  go_ret2
  exact ⟨rfl, rfl⟩

set_option maxRecDepth 100000 in
set_option maxHeartbeats 1000000 in
theorem cv_i32_iInt_lo (n : Int) (h0 : -9223372036854775808 ≤ n) (h1 : n < -2147483648) (w : World) : Calls Tryd.prog 57 #[.iface 95 (.int .i64 n), .int .i64 107] w (CvNo w) := by
  have HO := Lib.hid (fun w => ovo_iInt_i32_lo n h0 h1 w)
  clear h0 h1
  go_enter Tryd.func57, Tryd.ntmps57
  go_wp2_with (go_at_call 61; refine (HO.out _).mono ?_; rintro e w1 ⟨p, rfl, hE0, hb1⟩; have hE := Lib.hid hE0; clear hE0)
  go_ret2
  exact ⟨p, rfl, hE.out, hb1⟩

set_option maxRecDepth 100000 in
set_option maxHeartbeats 1000000 in
theorem cv_i32_iInt_hi (n : Int) (h1 : 2147483647 < n) (h2 : n ≤ 9223372036854775807) (w : World) : Calls Tryd.prog 57 #[.iface 95 (.int .i64 n), .int .i64 107] w (CvNo w) := by
  have HO := Lib.hid (fun w => ovo_iInt_i32_hi n h1 h2 w)
  clear h1 h2
  go_enter Tryd.func57, Tryd.ntmps57
  go_wp2_with (go_at_call 61; refine (HO.out _).mono ?_; rintro e w1 ⟨p, rfl, hE0, hb1⟩; have hE := Lib.hid hE0; clear hE0)
  go_ret2
  exact ⟨p, rfl, hE.out, hb1⟩

set_option maxRecDepth 100000 in
set_option maxHeartbeats 1000000 in
theorem cv_i32_iRune_ok (n : Int) (h1 : -2147483648 ≤ n) (h2 : n ≤ 2147483647) (w : World) : Calls Tryd.prog 57 #[.iface 96 (.int .i32 n), .int .i64 107] w fun e w' => e = .returned (.tuple #[.iface 21 (.int .i32 n), .nilIface]) ∧ w = w' := by
  have HO := Lib.hid (fun w => ovo_iRune_i32_ok n h1 h2 w)
  clear h1 h2
  go_enter Tryd.func57, Tryd.ntmps57
  go_wp2_with (go_at_call 61; refine (HO.out _).mono ?_; rintro e w1 ⟨rfl, rfl⟩)
  go_ret2
  exact ⟨rfl, rfl⟩

set_option maxRecDepth 100000 in
set_option maxHeartbeats 1000000 in
theorem cv_i32_iUint_ok (n : Int) (h1 : 0 ≤ n) (h2 : n ≤ 2147483647) (w : World) : Calls Tryd.prog 57 #[.iface 97 (.int .u64 n), .int .i64 107] w fun e w' => e = .returned (.tuple #[.iface 21 (.int .i32 (wrap32 n)), .nilIface]) ∧ w = w' := by
  have HO := Lib.hid (fun w => ovo_iUint_i32_ok n h1 h2 w)
  clear h1 h2
  go_enter Tryd.func57, Tryd.ntmps57
  go_wp2_with (go_at_call 61; refine (HO.out _).mono ?_; rintro e w1 ⟨rfl, rfl⟩)
  go_ret2
  exact ⟨rfl, rfl⟩

set_option maxRecDepth 100000 in
set_option maxHeartbeats 1000000 in
theorem cv_i32_iUint_hi (n : Int) (h1 : 2147483647 < n) (h2 : n ≤ 18446744073709551615) (w : World) : Calls Tryd.prog 57 #[.iface 97 (.int .u64 n), .int .i64 107] w (CvNo w) := by
  have HO := Lib.hid (fun w => ovo_iUint_i32_hi n h1 h2 w)
  clear h1 h2
  go_enter Tryd.func57, Tryd.ntmps57
  go_wp2_with (go_at_call 61; refine (HO.out _).mono ?_; rintro e w1 ⟨p, rfl, hE0, hb1⟩; have hE := Lib.hid hE0; clear hE0)
  go_ret2
  exact ⟨p, rfl, hE.out, hb1⟩

end Go.Proofs.YtiijcmdfbgoafaaDoor
