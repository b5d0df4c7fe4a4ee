/-
  ql.convert to the type f64, of a value of each other type. PRINTED BY wip/tpl/gen_cvt.py.
-/
import Derived.Test.YtiijcmdfbgoafaaDoorCvo
namespace Go.Proofs.YtiijcmdfbgoafaaDoor
open Go.RowKit

set_option maxRecDepth 100000 in
set_option maxHeartbeats 1000000 in
theorem cv_f64_bool (b : Bool) (w : World) : Calls Tryd.prog 57 #[.iface 4 (.bool b), .int .i64 103] w (CvNo w) := by
  go_enter Tryd.func57, Tryd.ntmps57
  go_wp2_with (first | (go_at_call 61; refine (ovo_bool b _ _).mono ?_; rintro e w0 ⟨rfl, rfl⟩) | (go_at_call 62; refine (invConv_er _ _ _).mono ?_; rintro e w1 ⟨p, rfl, hE0, hb1⟩; have hE := Lib.hid hE0; clear hE0))
  go_ret2
  exact ⟨p, rfl, hE.out, hb1⟩

set_option maxRecDepth 100000 in
set_option maxHeartbeats 1000000 in
theorem cv_f64_i8 (n : Int) (w : World) : Calls Tryd.prog 57 #[.iface 74 (.int .i8 n), .int .i64 103] w fun e w' => e = .returned (.tuple #[.iface 28 (.float .f64 (FloatKind.f64.nearest n)), .nilIface]) ∧ w = w' := by
  go_enter Tryd.func57, Tryd.ntmps57
  go_wp2_with (go_at_call 61; refine (ovo_i8 n _ _).mono ?_; rintro e w0 ⟨rfl, rfl⟩)
  go_ret2
  exact ⟨rfl, rfl⟩

set_option maxRecDepth 100000 in
set_option maxHeartbeats 1000000 in
theorem cv_f64_i16 (n : Int) (w : World) : Calls Tryd.prog 57 #[.iface 75 (.int .i16 n), .int .i64 103] w fun e w' => e = .returned (.tuple #[.iface 28 (.float .f64 (FloatKind.f64.nearest n)), .nilIface]) ∧ w = w' := by
  go_enter Tryd.func57, Tryd.ntmps57
  go_wp2_with (go_at_call 61; refine (ovo_i16 n _ _).mono ?_; rintro e w0 ⟨rfl, rfl⟩)
  go_ret2
  exact ⟨rfl, rfl⟩

set_option maxRecDepth 100000 in
set_option maxHeartbeats 1000000 in
theorem cv_f64_i32 (n : Int) (w : World) : Calls Tryd.prog 57 #[.iface 21 (.int .i32 n), .int .i64 103] w fun e w' => e = .returned (.tuple #[.iface 28 (.float .f64 (FloatKind.f64.nearest n)), .nilIface]) ∧ w = w' := by
  go_enter Tryd.func57, Tryd.ntmps57
  go_wp2_with (go_at_call 61; refine (ovo_i32 n _ _).mono ?_; rintro e w0 ⟨rfl, rfl⟩)
  go_ret2
  exact ⟨rfl, rfl⟩

set_option maxRecDepth 100000 in
set_option maxHeartbeats 1000000 in
theorem cv_f64_i64 (n : Int) (w : World) : Calls Tryd.prog 57 #[.iface 2 (.int .i64 n), .int .i64 103] w fun e w' => e = .returned (.tuple #[.iface 28 (.float .f64 (FloatKind.f64.nearest n)), .nilIface]) ∧ w = w' := by
  go_enter Tryd.func57, Tryd.ntmps57
  go_wp2_with (go_at_call 61; refine (ovo_i64 n _ _).mono ?_; rintro e w0 ⟨rfl, rfl⟩)
  go_ret2
  exact ⟨rfl, rfl⟩

set_option maxRecDepth 100000 in
set_option maxHeartbeats 1000000 in
theorem cv_f64_u8 (n : Int) (w : World) : Calls Tryd.prog 57 #[.iface 5 (.int .u8 n), .int .i64 103] w fun e w' => e = .returned (.tuple #[.iface 28 (.float .f64 (FloatKind.f64.nearest n)), .nilIface]) ∧ w = w' := by
  go_enter Tryd.func57, Tryd.ntmps57
  go_wp2_with (go_at_call 61; refine (ovo_u8 n _ _).mono ?_; rintro e w0 ⟨rfl, rfl⟩)
  go_ret2
  exact ⟨rfl, rfl⟩

set_option maxRecDepth 100000 in
set_option maxHeartbeats 1000000 in
theorem cv_f64_u16 (n : Int) (w : World) : Calls Tryd.prog 57 #[.iface 76 (.int .u16 n), .int .i64 103] w fun e w' => e = .returned (.tuple #[.iface 28 (.float .f64 (FloatKind.f64.nearest n)), .nilIface]) ∧ w = w' := by
  go_enter Tryd.func57, Tryd.ntmps57
  go_wp2_with (go_at_call 61; refine (ovo_u16 n _ _).mono ?_; rintro e w0 ⟨rfl, rfl⟩)
  go_ret2
  exact ⟨rfl, rfl⟩

set_option maxRecDepth 100000 in
set_option maxHeartbeats 1000000 in
theorem cv_f64_u32 (n : Int) (w : World) : Calls Tryd.prog 57 #[.iface 77 (.int .u32 n), .int .i64 103] w fun e w' => e = .returned (.tuple #[.iface 28 (.float .f64 (FloatKind.f64.nearest n)), .nilIface]) ∧ w = w' := by
  go_enter Tryd.func57, Tryd.ntmps57
  go_wp2_with (go_at_call 61; refine (ovo_u32 n _ _).mono ?_; rintro e w0 ⟨rfl, rfl⟩)
  go_ret2
  exact ⟨rfl, rfl⟩

set_option maxRecDepth 100000 in
set_option maxHeartbeats 1000000 in
theorem cv_f64_u64 (n : Int) (w : World) : Calls Tryd.prog 57 #[.iface 27 (.int .u64 n), .int .i64 103] w fun e w' => e = .returned (.tuple #[.iface 28 (.float .f64 (FloatKind.f64.nearest n)), .nilIface]) ∧ w = w' := by
  go_enter Tryd.func57, Tryd.ntmps57
  go_wp2_with (go_at_call 61; refine (ovo_u64 n _ _).mono ?_; rintro e w0 ⟨rfl, rfl⟩)
  go_ret2
  exact ⟨rfl, rfl⟩

set_option maxRecDepth 100000 in
set_option maxHeartbeats 1000000 in
theorem cv_f64_f32 (x : Nat) (w : World) : Calls Tryd.prog 57 #[.iface 37 (.float .f32 x), .int .i64 103] w fun e w' => e = .returned (.tuple #[.iface 28 (.float .f64 (wide w x)), .nilIface]) ∧ w' = w.drewN (wideN x) := by
  have c1 := fun W => run_wide_any x W
  go_enter Tryd.func57, Tryd.ntmps57
  go_wp2_with (go_at_call 61; refine (ovo_f32 x _ _).mono ?_; rintro e w0 ⟨rfl, rfl⟩)
  go_ret2
  exact ⟨rfl, rfl⟩

set_option maxRecDepth 100000 in
set_option maxHeartbeats 1000000 in
theorem cv_f64_f64 (x : Nat) (w : World) : Calls Tryd.prog 57 #[.iface 28 (.float .f64 x), .int .i64 103] w fun e w' => e = .returned (.tuple #[.iface 28 (.float .f64 x), .nilIface]) ∧ w = w' := by
  go_enter Tryd.func57, Tryd.ntmps57
  go_wp2_with (go_at_call 61; refine (ovo_f64 x _ _).mono ?_; rintro e w0 ⟨rfl, rfl⟩)
  go_ret2
  exact ⟨rfl, rfl⟩

set_option maxRecDepth 100000 in
set_option maxHeartbeats 1000000 in
theorem cv_f64_str (s : ByteArray) (w : World) : Calls Tryd.prog 57 #[.iface 9 (.string s), .int .i64 103] w (CvNo w) := by
  go_enter Tryd.func57, Tryd.ntmps57
  go_wp2_with (first | (go_at_call 61; refine (ovo_str s _ _).mono ?_; rintro e w0 ⟨rfl, rfl⟩) | (go_at_call 62; refine (invConv_er _ _ _).mono ?_; rintro e w1 ⟨p, rfl, hE0, hb1⟩; have hE := Lib.hid hE0; clear hE0))
  go_ret2
  exact ⟨p, rfl, hE.out, hb1⟩

set_option maxRecDepth 100000 in
set_option maxHeartbeats 1000000 in
theorem cv_f64_blob (a : Addr) (l : List UInt8) (cap : Nat) (w : World) : Calls Tryd.prog 57 #[.iface 78 (.slice (some a) l.length cap), .int .i64 103] w (CvNo w) := by
  go_enter Tryd.func57, Tryd.ntmps57
  go_wp2_with (first | (go_at_call 61; refine (ovo_blob a l cap _ _).mono ?_; rintro e w0 ⟨rfl, rfl⟩) | (go_at_call 62; refine (invConv_er _ _ _).mono ?_; rintro e w1 ⟨p, rfl, hE0, hb1⟩; have hE := Lib.hid hE0; clear hE0))
  go_ret2
  exact ⟨p, rfl, hE.out, hb1⟩

set_option maxRecDepth 100000 in
set_option maxHeartbeats 1000000 in
theorem cv_f64_iInt (n : Int) (w : World) : Calls Tryd.prog 57 #[.iface 95 (.int .i64 n), .int .i64 103] w fun e w' => e = .returned (.tuple #[.iface 28 (.float .f64 (FloatKind.f64.nearest n)), .nilIface]) ∧ w = w' := by
  go_enter Tryd.func57, Tryd.ntmps57
  go_wp2_with (go_at_call 61; refine (ovo_iInt_f64 n _).mono ?_; rintro e w0 ⟨rfl, rfl⟩)
  go_ret2
  exact ⟨rfl, rfl⟩

set_option maxRecDepth 100000 in
set_option maxHeartbeats 1000000 in
theorem cv_f64_iRune (n : Int) (w : World) : Calls Tryd.prog 57 #[.iface 96 (.int .i32 n), .int .i64 103] w fun e w' => e = .returned (.tuple #[.iface 28 (.float .f64 (FloatKind.f64.nearest n)), .nilIface]) ∧ w = w' := by
  go_enter Tryd.func57, Tryd.ntmps57
  go_wp2_with (go_at_call 61; refine (ovo_iRune_f64 n _).mono ?_; rintro e w0 ⟨rfl, rfl⟩)
  go_ret2
  exact ⟨rfl, rfl⟩

set_option maxRecDepth 100000 in
set_option maxHeartbeats 1000000 in
theorem cv_f64_iUint (n : Int) (w : World) : Calls Tryd.prog 57 #[.iface 97 (.int .u64 n), .int .i64 103] w fun e w' => e = .returned (.tuple #[.iface 28 (.float .f64 (FloatKind.f64.nearest n)), .nilIface]) ∧ w = w' := by
  go_enter Tryd.func57, Tryd.ntmps57
  go_wp2_with (go_at_call 61; refine (ovo_iUint_f64 n _).mono ?_; rintro e w0 ⟨rfl, rfl⟩)
  go_ret2
  exact ⟨rfl, rfl⟩

set_option maxRecDepth 100000 in
set_option maxHeartbeats 1000000 in
theorem cv_f64_iFloat (x : Nat) (w : World) : Calls Tryd.prog 57 #[.iface 91 (.float .f64 x), .int .i64 103] w fun e w' => e = .returned (.tuple #[.iface 28 (.float .f64 x), .nilIface]) ∧ w = w' := by
  go_enter Tryd.func57, Tryd.ntmps57
  go_wp2_with (go_at_call 61; refine (ovo_iFloat x _ _).mono ?_; rintro e w0 ⟨rfl, rfl⟩)
  go_ret2
  exact ⟨rfl, rfl⟩

end Go.Proofs.YtiijcmdfbgoafaaDoor
