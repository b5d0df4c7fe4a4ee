/-
  ql.collate1 of two values of different types, no literals. PRINTED BY wip/tpl/gen_col.py.
-/
import Derived.Test.YtiijcmdfbgoafaaDoorCola
import Derived.Deep.RegionWith
namespace Go.Proofs.YtiijcmdfbgoafaaDoor
open Go.RowKit

set_option linter.unusedVariables false

def SV.ty : SV → TypeId
  | .bool _ => 4 | .int k _ => kindT k | .f32 _ => 37 | .f64 _ => 28 | .str _ => 9 | .blob _ => 78
  | _ => 0

/-- A value of a type that is not T. -/
theorem shape_not {w : World} {y : SV} {v : Value} (h : Rep w y v) (hy : y.isLit = false) (T : TypeId) (hT : y.ty ≠ T) : v = .nilIface ∨ ∃ V z, v = .iface V z ∧ V ≠ T ∧ V ≠ 91 ∧ V ≠ 95 ∧ V ≠ 96 ∧ V ≠ 97 := by
  cases y with
  | null => exact .inl h
  | blob l => obtain ⟨a, cap, rfl, _⟩ := h; exact .inr ⟨_, _, rfl, hT, by decide, by decide, by decide, by decide⟩
  | int q n => obtain rfl : v = _ := h; exact .inr ⟨_, _, rfl, hT, by cases q <;> decide, by cases q <;> decide, by cases q <;> decide, by cases q <;> decide⟩
  | iInt n => exact absurd hy (by simp [SV.isLit])
  | iRune n => exact absurd hy (by simp [SV.isLit])
  | iUint n => exact absurd hy (by simp [SV.isLit])
  | iFloat n => exact absurd hy (by simp [SV.isLit])
  | _ => exact .inr ⟨_, _, h, hT, by decide, by decide, by decide, by decide⟩

set_option maxRecDepth 100000 in
set_option maxHeartbeats 1000000 in
theorem cox_bool (p z : Value) (V : TypeId) (r : Int) (w : World)
    (HD : Hid (Calls Tryd.prog 65 #[.iface 4 p, .iface V z] w fun e w' => e = .returned (.int .i64 r) ∧ w = w'))
    (b0 : V ≠ 4) (b1 : V ≠ 91) (b2 : V ≠ 95) (b3 : V ≠ 96) (b4 : V ≠ 97) :
    Calls Tryd.prog 58 #[.iface 4 p, .iface V z] w fun e w' => e = .returned (.int .i64 (-1)) ∧ w = w' := by
  go_enter Tryd.func58, Tryd.ntmps58
  go_wp2_with ((go_at_call 65; refine HD.out.mono ?_; rintro e w' ⟨rfl, rfl⟩))
  go_ret
  exact ⟨rfl, rfl⟩

set_option maxRecDepth 100000 in
set_option maxHeartbeats 1000000 in
theorem con_bool (p : Value) (w : World) :
    Calls Tryd.prog 58 #[.iface 4 p, .nilIface] w fun e w' => e = .returned (.int .i64 1) ∧ w = w' := by
  go_enter Tryd.func58, Tryd.ntmps58
  go_wp2
  go_ret
  exact ⟨rfl, rfl⟩

set_option maxRecDepth 100000 in
set_option maxHeartbeats 1000000 in
theorem cox_f32 (p z : Value) (V : TypeId) (r : Int) (w : World)
    (HD : Hid (Calls Tryd.prog 65 #[.iface 37 p, .iface V z] w fun e w' => e = .returned (.int .i64 r) ∧ w = w'))
    (b0 : V ≠ 37) (b1 : V ≠ 91) (b2 : V ≠ 95) (b3 : V ≠ 96) (b4 : V ≠ 97) :
    Calls Tryd.prog 58 #[.iface 37 p, .iface V z] w fun e w' => e = .returned (.int .i64 r) ∧ w = w' := by
  go_enter Tryd.func58, Tryd.ntmps58
  go_wp2_with ((go_at_call 65; refine HD.out.mono ?_; rintro e w' ⟨rfl, rfl⟩))
  go_ret
  exact ⟨rfl, rfl⟩

set_option maxRecDepth 100000 in
set_option maxHeartbeats 1000000 in
theorem con_f32 (p : Value) (w : World) :
    Calls Tryd.prog 58 #[.iface 37 p, .nilIface] w fun e w' => e = .returned (.int .i64 1) ∧ w = w' := by
  go_enter Tryd.func58, Tryd.ntmps58
  go_wp2
  go_ret
  exact ⟨rfl, rfl⟩

set_option maxRecDepth 100000 in
set_option maxHeartbeats 1000000 in
theorem cox_f64 (p z : Value) (V : TypeId) (r : Int) (w : World)
    (HD : Hid (Calls Tryd.prog 65 #[.iface 28 p, .iface V z] w fun e w' => e = .returned (.int .i64 r) ∧ w = w'))
    (b0 : V ≠ 28) (b1 : V ≠ 91) (b2 : V ≠ 95) (b3 : V ≠ 96) (b4 : V ≠ 97) :
    Calls Tryd.prog 58 #[.iface 28 p, .iface V z] w fun e w' => e = .returned (.int .i64 r) ∧ w = w' := by
  go_enter Tryd.func58, Tryd.ntmps58
  go_wp2_with ((go_at_call 65; refine HD.out.mono ?_; rintro e w' ⟨rfl, rfl⟩))
  go_ret
  exact ⟨rfl, rfl⟩

set_option maxRecDepth 100000 in
set_option maxHeartbeats 1000000 in
theorem con_f64 (p : Value) (w : World) :
    Calls Tryd.prog 58 #[.iface 28 p, .nilIface] w fun e w' => e = .returned (.int .i64 1) ∧ w = w' := by
  go_enter Tryd.func58, Tryd.ntmps58
  go_wp2
  go_ret
  exact ⟨rfl, rfl⟩

set_option maxRecDepth 100000 in
set_option maxHeartbeats 1000000 in
theorem cox_str (p z : Value) (V : TypeId) (r : Int) (w : World)
    (HD : Hid (Calls Tryd.prog 65 #[.iface 9 p, .iface V z] w fun e w' => e = .returned (.int .i64 r) ∧ w = w'))
    (b0 : V ≠ 9) (b1 : V ≠ 91) (b2 : V ≠ 95) (b3 : V ≠ 96) (b4 : V ≠ 97) :
    Calls Tryd.prog 58 #[.iface 9 p, .iface V z] w fun e w' => e = .returned (.int .i64 r) ∧ w = w' := by
  go_enter Tryd.func58, Tryd.ntmps58
  go_wp2_with ((go_at_call 65; refine HD.out.mono ?_; rintro e w' ⟨rfl, rfl⟩))
  go_ret
  exact ⟨rfl, rfl⟩

set_option maxRecDepth 100000 in
set_option maxHeartbeats 1000000 in
theorem con_str (p : Value) (w : World) :
    Calls Tryd.prog 58 #[.iface 9 p, .nilIface] w fun e w' => e = .returned (.int .i64 1) ∧ w = w' := by
  go_enter Tryd.func58, Tryd.ntmps58
  go_wp2
  go_ret
  exact ⟨rfl, rfl⟩

set_option maxRecDepth 100000 in
set_option maxHeartbeats 1000000 in
theorem cox_i8 (p z : Value) (V : TypeId) (r : Int) (w : World)
    (HD : Hid (Calls Tryd.prog 65 #[.iface 74 p, .iface V z] w fun e w' => e = .returned (.int .i64 r) ∧ w = w'))
    (b0 : V ≠ 74) (b1 : V ≠ 91) (b2 : V ≠ 95) (b3 : V ≠ 96) (b4 : V ≠ 97) :
    Calls Tryd.prog 58 #[.iface 74 p, .iface V z] w fun e w' => e = .returned (.int .i64 r) ∧ w = w' := by
  go_enter Tryd.func58, Tryd.ntmps58
  go_wp2_with ((go_at_call 65; refine HD.out.mono ?_; rintro e w' ⟨rfl, rfl⟩))
  go_ret
  exact ⟨rfl, rfl⟩

set_option maxRecDepth 100000 in
set_option maxHeartbeats 1000000 in
theorem con_i8 (p : Value) (w : World) :
    Calls Tryd.prog 58 #[.iface 74 p, .nilIface] w fun e w' => e = .returned (.int .i64 1) ∧ w = w' := by
  go_enter Tryd.func58, Tryd.ntmps58
  go_wp2
  go_ret
  exact ⟨rfl, rfl⟩

set_option maxRecDepth 100000 in
set_option maxHeartbeats 1000000 in
theorem cox_i16 (p z : Value) (V : TypeId) (r : Int) (w : World)
    (HD : Hid (Calls Tryd.prog 65 #[.iface 75 p, .iface V z] w fun e w' => e = .returned (.int .i64 r) ∧ w = w'))
    (b0 : V ≠ 75) (b1 : V ≠ 91) (b2 : V ≠ 95) (b3 : V ≠ 96) (b4 : V ≠ 97) :
    Calls Tryd.prog 58 #[.iface 75 p, .iface V z] w fun e w' => e = .returned (.int .i64 r) ∧ w = w' := by
  go_enter Tryd.func58, Tryd.ntmps58
  go_wp2_with ((go_at_call 65; refine HD.out.mono ?_; rintro e w' ⟨rfl, rfl⟩))
  go_ret
  exact ⟨rfl, rfl⟩

set_option maxRecDepth 100000 in
set_option maxHeartbeats 1000000 in
theorem con_i16 (p : Value) (w : World) :
    Calls Tryd.prog 58 #[.iface 75 p, .nilIface] w fun e w' => e = .returned (.int .i64 1) ∧ w = w' := by
  go_enter Tryd.func58, Tryd.ntmps58
  go_wp2
  go_ret
  exact ⟨rfl, rfl⟩

set_option maxRecDepth 100000 in
set_option maxHeartbeats 1000000 in
theorem cox_i32 (p z : Value) (V : TypeId) (r : Int) (w : World)
    (HD : Hid (Calls Tryd.prog 65 #[.iface 21 p, .iface V z] w fun e w' => e = .returned (.int .i64 r) ∧ w = w'))
    (b0 : V ≠ 21) (b1 : V ≠ 91) (b2 : V ≠ 95) (b3 : V ≠ 96) (b4 : V ≠ 97) :
    Calls Tryd.prog 58 #[.iface 21 p, .iface V z] w fun e w' => e = .returned (.int .i64 r) ∧ w = w' := by
  go_enter Tryd.func58, Tryd.ntmps58
  go_wp2_with ((go_at_call 65; refine HD.out.mono ?_; rintro e w' ⟨rfl, rfl⟩))
  go_ret
  exact ⟨rfl, rfl⟩

set_option maxRecDepth 100000 in
set_option maxHeartbeats 1000000 in
theorem con_i32 (p : Value) (w : World) :
    Calls Tryd.prog 58 #[.iface 21 p, .nilIface] w fun e w' => e = .returned (.int .i64 1) ∧ w = w' := by
  go_enter Tryd.func58, Tryd.ntmps58
  go_wp2
  go_ret
  exact ⟨rfl, rfl⟩

set_option maxRecDepth 100000 in
set_option maxHeartbeats 1000000 in
theorem cox_i64 (p z : Value) (V : TypeId) (r : Int) (w : World)
    (HD : Hid (Calls Tryd.prog 65 #[.iface 2 p, .iface V z] w fun e w' => e = .returned (.int .i64 r) ∧ w = w'))
    (b0 : V ≠ 2) (b1 : V ≠ 91) (b2 : V ≠ 95) (b3 : V ≠ 96) (b4 : V ≠ 97) :
    Calls Tryd.prog 58 #[.iface 2 p, .iface V z] w fun e w' => e = .returned (.int .i64 r) ∧ w = w' := by
  go_enter Tryd.func58, Tryd.ntmps58
  go_wp2_with ((go_at_call 65; refine HD.out.mono ?_; rintro e w' ⟨rfl, rfl⟩))
  go_ret
  exact ⟨rfl, rfl⟩

set_option maxRecDepth 100000 in
set_option maxHeartbeats 1000000 in
theorem con_i64 (p : Value) (w : World) :
    Calls Tryd.prog 58 #[.iface 2 p, .nilIface] w fun e w' => e = .returned (.int .i64 1) ∧ w = w' := by
  go_enter Tryd.func58, Tryd.ntmps58
  go_wp2
  go_ret
  exact ⟨rfl, rfl⟩

set_option maxRecDepth 100000 in
set_option maxHeartbeats 1000000 in
theorem cox_u8 (p z : Value) (V : TypeId) (r : Int) (w : World)
    (HD : Hid (Calls Tryd.prog 65 #[.iface 5 p, .iface V z] w fun e w' => e = .returned (.int .i64 r) ∧ w = w'))
    (b0 : V ≠ 5) (b1 : V ≠ 91) (b2 : V ≠ 95) (b3 : V ≠ 96) (b4 : V ≠ 97) :
    Calls Tryd.prog 58 #[.iface 5 p, .iface V z] w fun e w' => e = .returned (.int .i64 r) ∧ w = w' := by
  go_enter Tryd.func58, Tryd.ntmps58
  go_wp2_with ((go_at_call 65; refine HD.out.mono ?_; rintro e w' ⟨rfl, rfl⟩))
  go_ret
  exact ⟨rfl, rfl⟩

set_option maxRecDepth 100000 in
set_option maxHeartbeats 1000000 in
theorem con_u8 (p : Value) (w : World) :
    Calls Tryd.prog 58 #[.iface 5 p, .nilIface] w fun e w' => e = .returned (.int .i64 1) ∧ w = w' := by
  go_enter Tryd.func58, Tryd.ntmps58
  go_wp2
  go_ret
  exact ⟨rfl, rfl⟩

set_option maxRecDepth 100000 in
set_option maxHeartbeats 1000000 in
theorem cox_u16 (p z : Value) (V : TypeId) (r : Int) (w : World)
    (HD : Hid (Calls Tryd.prog 65 #[.iface 76 p, .iface V z] w fun e w' => e = .returned (.int .i64 r) ∧ w = w'))
    (b0 : V ≠ 76) (b1 : V ≠ 91) (b2 : V ≠ 95) (b3 : V ≠ 96) (b4 : V ≠ 97) :
    Calls Tryd.prog 58 #[.iface 76 p, .iface V z] w fun e w' => e = .returned (.int .i64 r) ∧ w = w' := by
  go_enter Tryd.func58, Tryd.ntmps58
  go_wp2_with ((go_at_call 65; refine HD.out.mono ?_; rintro e w' ⟨rfl, rfl⟩))
  go_ret
  exact ⟨rfl, rfl⟩

set_option maxRecDepth 100000 in
set_option maxHeartbeats 1000000 in
theorem con_u16 (p : Value) (w : World) :
    Calls Tryd.prog 58 #[.iface 76 p, .nilIface] w fun e w' => e = .returned (.int .i64 1) ∧ w = w' := by
  go_enter Tryd.func58, Tryd.ntmps58
  go_wp2
  go_ret
  exact ⟨rfl, rfl⟩

set_option maxRecDepth 100000 in
set_option maxHeartbeats 1000000 in
theorem cox_u32 (p z : Value) (V : TypeId) (r : Int) (w : World)
    (HD : Hid (Calls Tryd.prog 65 #[.iface 77 p, .iface V z] w fun e w' => e = .returned (.int .i64 r) ∧ w = w'))
    (b0 : V ≠ 77) (b1 : V ≠ 91) (b2 : V ≠ 95) (b3 : V ≠ 96) (b4 : V ≠ 97) :
    Calls Tryd.prog 58 #[.iface 77 p, .iface V z] w fun e w' => e = .returned (.int .i64 r) ∧ w = w' := by
  go_enter Tryd.func58, Tryd.ntmps58
  go_wp2_with ((go_at_call 65; refine HD.out.mono ?_; rintro e w' ⟨rfl, rfl⟩))
  go_ret
  exact ⟨rfl, rfl⟩

set_option maxRecDepth 100000 in
set_option maxHeartbeats 1000000 in
theorem con_u32 (p : Value) (w : World) :
    Calls Tryd.prog 58 #[.iface 77 p, .nilIface] w fun e w' => e = .returned (.int .i64 1) ∧ w = w' := by
  go_enter Tryd.func58, Tryd.ntmps58
  go_wp2
  go_ret
  exact ⟨rfl, rfl⟩

set_option maxRecDepth 100000 in
set_option maxHeartbeats 1000000 in
theorem cox_u64 (p z : Value) (V : TypeId) (r : Int) (w : World)
    (HD : Hid (Calls Tryd.prog 65 #[.iface 27 p, .iface V z] w fun e w' => e = .returned (.int .i64 r) ∧ w = w'))
    (b0 : V ≠ 27) (b1 : V ≠ 91) (b2 : V ≠ 95) (b3 : V ≠ 96) (b4 : V ≠ 97) :
    Calls Tryd.prog 58 #[.iface 27 p, .iface V z] w fun e w' => e = .returned (.int .i64 r) ∧ w = w' := by
  go_enter Tryd.func58, Tryd.ntmps58
  go_wp2_with ((go_at_call 65; refine HD.out.mono ?_; rintro e w' ⟨rfl, rfl⟩))
  go_ret
  exact ⟨rfl, rfl⟩

set_option maxRecDepth 100000 in
set_option maxHeartbeats 1000000 in
theorem con_u64 (p : Value) (w : World) :
    Calls Tryd.prog 58 #[.iface 27 p, .nilIface] w fun e w' => e = .returned (.int .i64 1) ∧ w = w' := by
  go_enter Tryd.func58, Tryd.ntmps58
  go_wp2
  go_ret
  exact ⟨rfl, rfl⟩

set_option maxRecDepth 100000 in
set_option maxHeartbeats 1000000 in
theorem cox_blob (p z : Value) (V : TypeId) (r : Int) (w : World)
    (HD : Hid (Calls Tryd.prog 65 #[.iface 78 p, .iface V z] w fun e w' => e = .returned (.int .i64 r) ∧ w = w'))
    (b0 : V ≠ 78) (b1 : V ≠ 91) (b2 : V ≠ 95) (b3 : V ≠ 96) (b4 : V ≠ 97) :
    Calls Tryd.prog 58 #[.iface 78 p, .iface V z] w fun e w' => e = .returned (.int .i64 r) ∧ w = w' := by
  go_enter Tryd.func58, Tryd.ntmps58
  go_wp2_with ((go_at_call 65; refine HD.out.mono ?_; rintro e w' ⟨rfl, rfl⟩))
  go_ret
  exact ⟨rfl, rfl⟩

set_option maxRecDepth 100000 in
set_option maxHeartbeats 1000000 in
theorem con_blob (p : Value) (w : World) :
    Calls Tryd.prog 58 #[.iface 78 p, .nilIface] w fun e w' => e = .returned (.int .i64 1) ∧ w = w' := by
  go_enter Tryd.func58, Tryd.ntmps58
  go_wp2
  go_ret
  exact ⟨rfl, rfl⟩

set_option maxRecDepth 100000 in
set_option maxHeartbeats 1000000 in
theorem con_null (w : World) : Calls Tryd.prog 58 #[.nilIface, .nilIface] w fun e w' => e = .returned (.int .i64 0) ∧ w = w' := by
  go_enter Tryd.func58, Tryd.ntmps58
  go_wp2
  go_ret
  exact ⟨rfl, rfl⟩

set_option maxRecDepth 100000 in
set_option maxHeartbeats 1000000 in
theorem cox_null (V : TypeId) (z : Value) (w : World) : Calls Tryd.prog 58 #[.nilIface, .iface V z] w fun e w' => e = .returned (.int .i64 (-1)) ∧ w = w' := by
  go_enter Tryd.func58, Tryd.ntmps58
  go_wp2
  go_ret
  exact ⟨rfl, rfl⟩

end Go.Proofs.YtiijcmdfbgoafaaDoor
