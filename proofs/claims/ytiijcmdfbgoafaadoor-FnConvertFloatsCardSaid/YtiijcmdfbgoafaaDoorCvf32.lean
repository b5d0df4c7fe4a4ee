/-
  ql.convert to the type f32, of a value of each other type. PRINTED BY wip/tpl/gen_cvt.py.
-/
import Derived.Test.YtiijcmdfbgoafaaDoorCvo
namespace Go.Proofs.YtiijcmdfbgoafaaDoor
open Go.RowKit

set_option maxRecDepth 100000 in
set_option maxHeartbeats 1000000 in
theorem cv_f32_bool (b : Bool) (w : World) : Calls Tryd.prog 57 #[.iface 4 (.bool b), .int .i64 102] w (CvNo w) := by
  go_enter Tryd.func57, Tryd.ntmps57
  go_wp2_with (first | (go_at_call 61; refine (ovo_bool b _ _).mono ?_; rintro e w0 ⟨rfl, rfl⟩) | (go_at_call 62; refine (invConv_er _ _ _).mono ?_; rintro e w1 ⟨p, rfl, hE0, hb1⟩; have hE := Lib.hid hE0; clear hE0))
  go_ret2
  exact ⟨p, rfl, hE.out, hb1⟩

set_option maxRecDepth 100000 in
set_option maxHeartbeats 1000000 in
theorem cv_f32_i8 (n : Int) (w : World) : Calls Tryd.prog 57 #[.iface 74 (.int .i8 n), .int .i64 102] w fun e w' => e = .returned (.tuple #[.iface 37 (.float .f32 (FloatKind.f32.nearest n)), .nilIface]) ∧ w = w' := by
  go_enter Tryd.func57, Tryd.ntmps57
  go_wp2_with (go_at_call 61; refine (ovo_i8 n _ _).mono ?_; rintro e w0 ⟨rfl, rfl⟩)
  go_ret2
  exact ⟨rfl, rfl⟩

set_option maxRecDepth 100000 in
set_option maxHeartbeats 1000000 in
theorem cv_f32_i16 (n : Int) (w : World) : Calls Tryd.prog 57 #[.iface 75 (.int .i16 n), .int .i64 102] w fun e w' => e = .returned (.tuple #[.iface 37 (.float .f32 (FloatKind.f32.nearest n)), .nilIface]) ∧ w = w' := by
  go_enter Tryd.func57, Tryd.ntmps57
  go_wp2_with (go_at_call 61; refine (ovo_i16 n _ _).mono ?_; rintro e w0 ⟨rfl, rfl⟩)
  go_ret2
  exact ⟨rfl, rfl⟩

set_option maxRecDepth 100000 in
set_option maxHeartbeats 1000000 in
theorem cv_f32_i32 (n : Int) (w : World) : Calls Tryd.prog 57 #[.iface 21 (.int .i32 n), .int .i64 102] w fun e w' => e = .returned (.tuple #[.iface 37 (.float .f32 (FloatKind.f32.nearest n)), .nilIface]) ∧ w = w' := by
  go_enter Tryd.func57, Tryd.ntmps57
  go_wp2_with (go_at_call 61; refine (ovo_i32 n _ _).mono ?_; rintro e w0 ⟨rfl, rfl⟩)
  go_ret2
  exact ⟨rfl, rfl⟩

set_option maxRecDepth 100000 in
set_option maxHeartbeats 1000000 in
theorem cv_f32_i64 (n : Int) (w : World) : Calls Tryd.prog 57 #[.iface 2 (.int .i64 n), .int .i64 102] w fun e w' => e = .returned (.tuple #[.iface 37 (.float .f32 (FloatKind.f32.nearest n)), .nilIface]) ∧ w = w' := by
  go_enter Tryd.func57, Tryd.ntmps57
  go_wp2_with (go_at_call 61; refine (ovo_i64 n _ _).mono ?_; rintro e w0 ⟨rfl, rfl⟩)
  go_ret2
  exact ⟨rfl, rfl⟩

set_option maxRecDepth 100000 in
set_option maxHeartbeats 1000000 in
theorem cv_f32_u8 (n : Int) (w : World) : Calls Tryd.prog 57 #[.iface 5 (.int .u8 n), .int .i64 102] w fun e w' => e = .returned (.tuple #[.iface 37 (.float .f32 (FloatKind.f32.nearest n)), .nilIface]) ∧ w = w' := by
  go_enter Tryd.func57, Tryd.ntmps57
  go_wp2_with (go_at_call 61; refine (ovo_u8 n _ _).mono ?_; rintro e w0 ⟨rfl, rfl⟩)
  go_ret2
  exact ⟨rfl, rfl⟩

set_option maxRecDepth 100000 in
set_option maxHeartbeats 1000000 in
theorem cv_f32_u16 (n : Int) (w : World) : Calls Tryd.prog 57 #[.iface 76 (.int .u16 n), .int .i64 102] w fun e w' => e = .returned (.tuple #[.iface 37 (.float .f32 (FloatKind.f32.nearest n)), .nilIface]) ∧ w = w' := by
  go_enter Tryd.func57, Tryd.ntmps57
  go_wp2_with (go_at_call 61; refine (ovo_u16 n _ _).mono ?_; rintro e w0 ⟨rfl, rfl⟩)
  go_ret2
  exact ⟨rfl, rfl⟩

set_option maxRecDepth 100000 in
set_option maxHeartbeats 1000000 in
theorem cv_f32_u32 (n : Int) (w : World) : Calls Tryd.prog 57 #[.iface 77 (.int .u32 n), .int .i64 102] w fun e w' => e = .returned (.tuple #[.iface 37 (.float .f32 (FloatKind.f32.nearest n)), .nilIface]) ∧ w = w' := by
  go_enter Tryd.func57, Tryd.ntmps57
  go_wp2_with (go_at_call 61; refine (ovo_u32 n _ _).mono ?_; rintro e w0 ⟨rfl, rfl⟩)
  go_ret2
  exact ⟨rfl, rfl⟩

set_option maxRecDepth 100000 in
set_option maxHeartbeats 1000000 in
theorem cv_f32_u64 (n : Int) (w : World) : Calls Tryd.prog 57 #[.iface 27 (.int .u64 n), .int .i64 102] w fun e w' => e = .returned (.tuple #[.iface 37 (.float .f32 (FloatKind.f32.nearest n)), .nilIface]) ∧ w = w' := by
  go_enter Tryd.func57, Tryd.ntmps57
  go_wp2_with (go_at_call 61; refine (ovo_u64 n _ _).mono ?_; rintro e w0 ⟨rfl, rfl⟩)
  go_ret2
  exact ⟨rfl, rfl⟩

set_option maxRecDepth 100000 in
set_option maxHeartbeats 1000000 in
theorem cv_f32_f32 (x : Nat) (w : World) : Calls Tryd.prog 57 #[.iface 37 (.float .f32 x), .int .i64 102] w fun e w' => e = .returned (.tuple #[.iface 37 (.float .f32 x), .nilIface]) ∧ w = w' := by
  go_enter Tryd.func57, Tryd.ntmps57
  go_wp2_with (go_at_call 61; refine (ovo_f32 x _ _).mono ?_; rintro e w0 ⟨rfl, rfl⟩)
  go_ret2
  exact ⟨rfl, rfl⟩

set_option maxRecDepth 100000 in
set_option maxHeartbeats 1000000 in
theorem cv_f32_f64 (x : Nat) (h : ((Ieee.single.read (Flt.down x)).isInfinity && !(Ieee.double.read x).isInfinity) = false) (h3 : (Ieee.double.read x).isNaN = false) (w : World) : Calls Tryd.prog 57 #[.iface 28 (.float .f64 x), .int .i64 102] w fun e w' => e = .returned (.tuple #[.iface 37 (.float .f32 (Flt.down x)), .nilIface]) ∧ w = w' := by
  have c1 := fun W => run_narrow x h h3 W
  clear h h3
  go_enter Tryd.func57, Tryd.ntmps57
  go_wp2_with (go_at_call 61; refine (ovo_f64 x _ _).mono ?_; rintro e w0 ⟨rfl, rfl⟩)
  go_ret2
  exact ⟨rfl, rfl⟩

set_option maxRecDepth 100000 in
set_option maxHeartbeats 1000000 in
theorem cv_f32_f64_nan (x : Nat) (h3 : (Ieee.double.read x).isNaN = true) (w : World) : Calls Tryd.prog 57 #[.iface 28 (.float .f64 x), .int .i64 102] w fun e w' => e = .returned (.tuple #[.iface 37 (.float .f32 (nan32 w x)), .nilIface]) ∧ w' = w.drew := by
  have c1 := fun W => run_nan32 x h3 W
  clear h3
  go_enter Tryd.func57, Tryd.ntmps57
  go_wp2_with (go_at_call 61; refine (ovo_f64 x _ _).mono ?_; rintro e w0 ⟨rfl, rfl⟩)
  go_ret2
  exact ⟨rfl, rfl⟩

set_option maxRecDepth 100000 in
set_option maxHeartbeats 1000000 in
theorem cv_f32_f64_over (x : Nat) (h : (Ieee.single.read (Flt.down x)).isInfinity = true) (h2 : (Ieee.double.read x).isInfinity = false) (h3 : (Ieee.double.read x).isNaN = false) (w : World) : Calls Tryd.prog 57 #[.iface 28 (.float .f64 x), .int .i64 102] w fun e w' => e = .returned (.tuple #[.iface 37 (.float .f32 (over32 w x)), .nilIface]) ∧ w' = w.drew := by
  have c1 := fun W => run_over32 x h h2 h3 W
  clear h h2 h3
  go_enter Tryd.func57, Tryd.ntmps57
  go_wp2_with (go_at_call 61; refine (ovo_f64 x _ _).mono ?_; rintro e w0 ⟨rfl, rfl⟩)
  go_ret2
  exact ⟨rfl, rfl⟩

set_option maxRecDepth 100000 in
set_option maxHeartbeats 1000000 in
theorem cv_f32_str (s : ByteArray) (w : World) : Calls Tryd.prog 57 #[.iface 9 (.string s), .int .i64 102] w (CvNo w) := by
  go_enter Tryd.func57, Tryd.ntmps57
  go_wp2_with (first | (go_at_call 61; refine (ovo_str s _ _).mono ?_; rintro e w0 ⟨rfl, rfl⟩) | (go_at_call 62; refine (invConv_er _ _ _).mono ?_; rintro e w1 ⟨p, rfl, hE0, hb1⟩; have hE := Lib.hid hE0; clear hE0))
  go_ret2
  exact ⟨p, rfl, hE.out, hb1⟩

set_option maxRecDepth 100000 in
set_option maxHeartbeats 1000000 in
theorem cv_f32_blob (a : Addr) (l : List UInt8) (cap : Nat) (w : World) : Calls Tryd.prog 57 #[.iface 78 (.slice (some a) l.length cap), .int .i64 102] w (CvNo w) := by
  go_enter Tryd.func57, Tryd.ntmps57
  go_wp2_with (first | (go_at_call 61; refine (ovo_blob a l cap _ _).mono ?_; rintro e w0 ⟨rfl, rfl⟩) | (go_at_call 62; refine (invConv_er _ _ _).mono ?_; rintro e w1 ⟨p, rfl, hE0, hb1⟩; have hE := Lib.hid hE0; clear hE0))
  go_ret2
  exact ⟨p, rfl, hE.out, hb1⟩

set_option maxRecDepth 100000 in
set_option maxHeartbeats 1000000 in
theorem cv_f32_iInt (n : Int) (w : World) : Calls Tryd.prog 57 #[.iface 95 (.int .i64 n), .int .i64 102] w fun e w' => e = .returned (.tuple #[.iface 37 (.float .f32 (FloatKind.f32.nearest n)), .nilIface]) ∧ w = w' := by
  go_enter Tryd.func57, Tryd.ntmps57
  go_wp2_with (go_at_call 61; refine (ovo_iInt_f32 n _).mono ?_; rintro e w0 ⟨rfl, rfl⟩)
  go_ret2
  exact ⟨rfl, rfl⟩

set_option maxRecDepth 100000 in
set_option maxHeartbeats 1000000 in
theorem cv_f32_iRune (n : Int) (w : World) : Calls Tryd.prog 57 #[.iface 96 (.int .i32 n), .int .i64 102] w fun e w' => e = .returned (.tuple #[.iface 37 (.float .f32 (FloatKind.f32.nearest n)), .nilIface]) ∧ w = w' := by
  go_enter Tryd.func57, Tryd.ntmps57
  go_wp2_with (go_at_call 61; refine (ovo_iRune_f32 n _).mono ?_; rintro e w0 ⟨rfl, rfl⟩)
  go_ret2
  exact ⟨rfl, rfl⟩

set_option maxRecDepth 100000 in
set_option maxHeartbeats 1000000 in
theorem cv_f32_iUint (n : Int) (w : World) : Calls Tryd.prog 57 #[.iface 97 (.int .u64 n), .int .i64 102] w fun e w' => e = .returned (.tuple #[.iface 37 (.float .f32 (FloatKind.f32.nearest n)), .nilIface]) ∧ w = w' := by
  go_enter Tryd.func57, Tryd.ntmps57
  go_wp2_with (go_at_call 61; refine (ovo_iUint_f32 n _).mono ?_; rintro e w0 ⟨rfl, rfl⟩)
  go_ret2
  exact ⟨rfl, rfl⟩

set_option maxRecDepth 100000 in
set_option maxHeartbeats 1000000 in
theorem cv_f32_iFloat (x : Nat) (h : ((Ieee.single.read (Flt.down x)).isInfinity && !(Ieee.double.read x).isInfinity) = false) (h3 : (Ieee.double.read x).isNaN = false) (w : World) : Calls Tryd.prog 57 #[.iface 91 (.float .f64 x), .int .i64 102] w fun e w' => e = .returned (.tuple #[.iface 37 (.float .f32 (Flt.down x)), .nilIface]) ∧ w = w' := by
  have c1 := fun W => run_narrowI x h h3 W
  clear h h3
  go_enter Tryd.func57, Tryd.ntmps57
  go_wp2_with (go_at_call 61; refine (ovo_iFloat x _ _).mono ?_; rintro e w0 ⟨rfl, rfl⟩)
  go_ret2
  exact ⟨rfl, rfl⟩

set_option maxRecDepth 100000 in
set_option maxHeartbeats 1000000 in
theorem cv_f32_iFloat_nan (x : Nat) (h3 : (Ieee.double.read x).isNaN = true) (w : World) : Calls Tryd.prog 57 #[.iface 91 (.float .f64 x), .int .i64 102] w fun e w' => e = .returned (.tuple #[.iface 37 (.float .f32 (nan32 w x)), .nilIface]) ∧ w' = w.drew := by
  have c1 := fun W => run_nan32I x h3 W
  clear h3
  go_enter Tryd.func57, Tryd.ntmps57
  go_wp2_with (go_at_call 61; refine (ovo_iFloat x _ _).mono ?_; rintro e w0 ⟨rfl, rfl⟩)
  go_ret2
  exact ⟨rfl, rfl⟩

set_option maxRecDepth 100000 in
set_option maxHeartbeats 1000000 in
theorem cv_f32_iFloat_over (x : Nat) (h : (Ieee.single.read (Flt.down x)).isInfinity = true) (h2 : (Ieee.double.read x).isInfinity = false) (h3 : (Ieee.double.read x).isNaN = false) (w : World) : Calls Tryd.prog 57 #[.iface 91 (.float .f64 x), .int .i64 102] w fun e w' => e = .returned (.tuple #[.iface 37 (.float .f32 (over32 w x)), .nilIface]) ∧ w' = w.drew := by
  have c1 := fun W => run_over32I x h h2 h3 W
  clear h h2 h3
  go_enter Tryd.func57, Tryd.ntmps57
  go_wp2_with (go_at_call 61; refine (ovo_iFloat x _ _).mono ?_; rintro e w0 ⟨rfl, rfl⟩)
  go_ret2
  exact ⟨rfl, rfl⟩

end Go.Proofs.YtiijcmdfbgoafaaDoor
