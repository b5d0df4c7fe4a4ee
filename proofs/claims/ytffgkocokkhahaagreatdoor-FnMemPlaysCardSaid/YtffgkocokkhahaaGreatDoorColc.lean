/-
  ql.collate1 of two values of different types, no literals. PRINTED BY wip/tpl/gen_col.py.
-/
import Derived.Test.YtffgkocokkhahaaGreatDoorCola
import Derived.Deep.RegionWith
namespace Go.Proofs.YtffgkocokkhahaaGreatDoor
open Go.RowKit

set_option linter.unusedVariables false

def SV.ty : SV → TypeId
  | .bool _ => 4 | .int k _ => kindT k | .f32 _ => 161 | .f64 _ => 55 | .str _ => 9 | .blob _ => 188
  | _ => 0

/-- A value of a type that is not T. -/
theorem shape_not {w : World} {y : SV} {v : Value} (h : Rep w y v) (hy : y.isLit = false) (T : TypeId) (hT : y.ty ≠ T) : v = .nilIface ∨ ∃ V z, v = .iface V z ∧ V ≠ T ∧ V ≠ 197 ∧ V ≠ 198 ∧ V ≠ 199 ∧ V ≠ 200 := by
  cases y with
  | null => exact .inl h
  | blob l => obtain ⟨a, cap, rfl, _⟩ := h; exact .inr ⟨_, _, rfl, hT, by decide, by decide, by decide, by decide⟩
  | int q n => obtain rfl : v = _ := h; exact .inr ⟨_, _, rfl, hT, by cases q <;> decide, by cases q <;> decide, by cases q <;> decide, by cases q <;> decide⟩
  | iInt n => exact absurd hy (by simp [SV.isLit])
  | iRune n => exact absurd hy (by simp [SV.isLit])
  | iUint n => exact absurd hy (by simp [SV.isLit])
  | iFloat n => exact absurd hy (by simp [SV.isLit])
  | _ => exact .inr ⟨_, _, h, hT, by decide, by decide, by decide, by decide⟩

set_option maxRecDepth 100000 in
set_option maxHeartbeats 1000000 in
theorem cox_bool (p z : Value) (V : TypeId) (r : Int) (w : World)
    (HD : Hid (Calls Tryz.prog 126 #[.iface 4 p, .iface V z] w fun e w' => e = .returned (.int .i64 r) ∧ w = w'))
    (b0 : V ≠ 4) (b1 : V ≠ 197) (b2 : V ≠ 198) (b3 : V ≠ 199) (b4 : V ≠ 200) :
    Calls Tryz.prog 119 #[.iface 4 p, .iface V z] w fun e w' => e = .returned (.int .i64 (-1)) ∧ w = w' := by
  go_enter Tryz.func119, Tryz.ntmps119
  go_wp2_with ((go_at_call 126; refine HD.out.mono ?_; rintro e w' ⟨rfl, rfl⟩))
  go_ret
  exact ⟨rfl, rfl⟩

set_option maxRecDepth 100000 in
set_option maxHeartbeats 1000000 in
theorem con_bool (p : Value) (w : World) :
    Calls Tryz.prog 119 #[.iface 4 p, .nilIface] w fun e w' => e = .returned (.int .i64 1) ∧ w = w' := by
  go_enter Tryz.func119, Tryz.ntmps119
  go_wp2
  go_ret
  exact ⟨rfl, rfl⟩

set_option maxRecDepth 100000 in
set_option maxHeartbeats 1000000 in
theorem cox_f32 (p z : Value) (V : TypeId) (r : Int) (w : World)
    (HD : Hid (Calls Tryz.prog 126 #[.iface 161 p, .iface V z] w fun e w' => e = .returned (.int .i64 r) ∧ w = w'))
    (b0 : V ≠ 161) (b1 : V ≠ 197) (b2 : V ≠ 198) (b3 : V ≠ 199) (b4 : V ≠ 200) :
    Calls Tryz.prog 119 #[.iface 161 p, .iface V z] w fun e w' => e = .returned (.int .i64 r) ∧ w = w' := by
  go_enter Tryz.func119, Tryz.ntmps119
  go_wp2_with ((go_at_call 126; refine HD.out.mono ?_; rintro e w' ⟨rfl, rfl⟩))
  go_ret
  exact ⟨rfl, rfl⟩

set_option maxRecDepth 100000 in
set_option maxHeartbeats 1000000 in
theorem con_f32 (p : Value) (w : World) :
    Calls Tryz.prog 119 #[.iface 161 p, .nilIface] w fun e w' => e = .returned (.int .i64 1) ∧ w = w' := by
  go_enter Tryz.func119, Tryz.ntmps119
  go_wp2
  go_ret
  exact ⟨rfl, rfl⟩

set_option maxRecDepth 100000 in
set_option maxHeartbeats 1000000 in
theorem cox_f64 (p z : Value) (V : TypeId) (r : Int) (w : World)
    (HD : Hid (Calls Tryz.prog 126 #[.iface 55 p, .iface V z] w fun e w' => e = .returned (.int .i64 r) ∧ w = w'))
    (b0 : V ≠ 55) (b1 : V ≠ 197) (b2 : V ≠ 198) (b3 : V ≠ 199) (b4 : V ≠ 200) :
    Calls Tryz.prog 119 #[.iface 55 p, .iface V z] w fun e w' => e = .returned (.int .i64 r) ∧ w = w' := by
  go_enter Tryz.func119, Tryz.ntmps119
  go_wp2_with ((go_at_call 126; refine HD.out.mono ?_; rintro e w' ⟨rfl, rfl⟩))
  go_ret
  exact ⟨rfl, rfl⟩

set_option maxRecDepth 100000 in
set_option maxHeartbeats 1000000 in
theorem con_f64 (p : Value) (w : World) :
    Calls Tryz.prog 119 #[.iface 55 p, .nilIface] w fun e w' => e = .returned (.int .i64 1) ∧ w = w' := by
  go_enter Tryz.func119, Tryz.ntmps119
  go_wp2
  go_ret
  exact ⟨rfl, rfl⟩

set_option maxRecDepth 100000 in
set_option maxHeartbeats 1000000 in
theorem cox_str (p z : Value) (V : TypeId) (r : Int) (w : World)
    (HD : Hid (Calls Tryz.prog 126 #[.iface 9 p, .iface V z] w fun e w' => e = .returned (.int .i64 r) ∧ w = w'))
    (b0 : V ≠ 9) (b1 : V ≠ 197) (b2 : V ≠ 198) (b3 : V ≠ 199) (b4 : V ≠ 200) :
    Calls Tryz.prog 119 #[.iface 9 p, .iface V z] w fun e w' => e = .returned (.int .i64 r) ∧ w = w' := by
  go_enter Tryz.func119, Tryz.ntmps119
  go_wp2_with ((go_at_call 126; refine HD.out.mono ?_; rintro e w' ⟨rfl, rfl⟩))
  go_ret
  exact ⟨rfl, rfl⟩

set_option maxRecDepth 100000 in
set_option maxHeartbeats 1000000 in
theorem con_str (p : Value) (w : World) :
    Calls Tryz.prog 119 #[.iface 9 p, .nilIface] w fun e w' => e = .returned (.int .i64 1) ∧ w = w' := by
  go_enter Tryz.func119, Tryz.ntmps119
  go_wp2
  go_ret
  exact ⟨rfl, rfl⟩

set_option maxRecDepth 100000 in
set_option maxHeartbeats 1000000 in
theorem cox_i8 (p z : Value) (V : TypeId) (r : Int) (w : World)
    (HD : Hid (Calls Tryz.prog 126 #[.iface 185 p, .iface V z] w fun e w' => e = .returned (.int .i64 r) ∧ w = w'))
    (b0 : V ≠ 185) (b1 : V ≠ 197) (b2 : V ≠ 198) (b3 : V ≠ 199) (b4 : V ≠ 200) :
    Calls Tryz.prog 119 #[.iface 185 p, .iface V z] w fun e w' => e = .returned (.int .i64 r) ∧ w = w' := by
  go_enter Tryz.func119, Tryz.ntmps119
  go_wp2_with ((go_at_call 126; refine HD.out.mono ?_; rintro e w' ⟨rfl, rfl⟩))
  go_ret
  exact ⟨rfl, rfl⟩

set_option maxRecDepth 100000 in
set_option maxHeartbeats 1000000 in
theorem con_i8 (p : Value) (w : World) :
    Calls Tryz.prog 119 #[.iface 185 p, .nilIface] w fun e w' => e = .returned (.int .i64 1) ∧ w = w' := by
  go_enter Tryz.func119, Tryz.ntmps119
  go_wp2
  go_ret
  exact ⟨rfl, rfl⟩

set_option maxRecDepth 100000 in
set_option maxHeartbeats 1000000 in
theorem cox_i16 (p z : Value) (V : TypeId) (r : Int) (w : World)
    (HD : Hid (Calls Tryz.prog 126 #[.iface 186 p, .iface V z] w fun e w' => e = .returned (.int .i64 r) ∧ w = w'))
    (b0 : V ≠ 186) (b1 : V ≠ 197) (b2 : V ≠ 198) (b3 : V ≠ 199) (b4 : V ≠ 200) :
    Calls Tryz.prog 119 #[.iface 186 p, .iface V z] w fun e w' => e = .returned (.int .i64 r) ∧ w = w' := by
  go_enter Tryz.func119, Tryz.ntmps119
  go_wp2_with ((go_at_call 126; refine HD.out.mono ?_; rintro e w' ⟨rfl, rfl⟩))
  go_ret
  exact ⟨rfl, rfl⟩

set_option maxRecDepth 100000 in
set_option maxHeartbeats 1000000 in
theorem con_i16 (p : Value) (w : World) :
    Calls Tryz.prog 119 #[.iface 186 p, .nilIface] w fun e w' => e = .returned (.int .i64 1) ∧ w = w' := by
  go_enter Tryz.func119, Tryz.ntmps119
  go_wp2
  go_ret
  exact ⟨rfl, rfl⟩

set_option maxRecDepth 100000 in
set_option maxHeartbeats 1000000 in
theorem cox_i32 (p z : Value) (V : TypeId) (r : Int) (w : World)
    (HD : Hid (Calls Tryz.prog 126 #[.iface 21 p, .iface V z] w fun e w' => e = .returned (.int .i64 r) ∧ w = w'))
    (b0 : V ≠ 21) (b1 : V ≠ 197) (b2 : V ≠ 198) (b3 : V ≠ 199) (b4 : V ≠ 200) :
    Calls Tryz.prog 119 #[.iface 21 p, .iface V z] w fun e w' => e = .returned (.int .i64 r) ∧ w = w' := by
  go_enter Tryz.func119, Tryz.ntmps119
  go_wp2_with ((go_at_call 126; refine HD.out.mono ?_; rintro e w' ⟨rfl, rfl⟩))
  go_ret
  exact ⟨rfl, rfl⟩

set_option maxRecDepth 100000 in
set_option maxHeartbeats 1000000 in
theorem con_i32 (p : Value) (w : World) :
    Calls Tryz.prog 119 #[.iface 21 p, .nilIface] w fun e w' => e = .returned (.int .i64 1) ∧ w = w' := by
  go_enter Tryz.func119, Tryz.ntmps119
  go_wp2
  go_ret
  exact ⟨rfl, rfl⟩

set_option maxRecDepth 100000 in
set_option maxHeartbeats 1000000 in
theorem cox_i64 (p z : Value) (V : TypeId) (r : Int) (w : World)
    (HD : Hid (Calls Tryz.prog 126 #[.iface 2 p, .iface V z] w fun e w' => e = .returned (.int .i64 r) ∧ w = w'))
    (b0 : V ≠ 2) (b1 : V ≠ 197) (b2 : V ≠ 198) (b3 : V ≠ 199) (b4 : V ≠ 200) :
    Calls Tryz.prog 119 #[.iface 2 p, .iface V z] w fun e w' => e = .returned (.int .i64 r) ∧ w = w' := by
  go_enter Tryz.func119, Tryz.ntmps119
  go_wp2_with ((go_at_call 126; refine HD.out.mono ?_; rintro e w' ⟨rfl, rfl⟩))
  go_ret
  exact ⟨rfl, rfl⟩

set_option maxRecDepth 100000 in
set_option maxHeartbeats 1000000 in
theorem con_i64 (p : Value) (w : World) :
    Calls Tryz.prog 119 #[.iface 2 p, .nilIface] w fun e w' => e = .returned (.int .i64 1) ∧ w = w' := by
  go_enter Tryz.func119, Tryz.ntmps119
  go_wp2
  go_ret
  exact ⟨rfl, rfl⟩

set_option maxRecDepth 100000 in
set_option maxHeartbeats 1000000 in
theorem cox_u8 (p z : Value) (V : TypeId) (r : Int) (w : World)
    (HD : Hid (Calls Tryz.prog 126 #[.iface 5 p, .iface V z] w fun e w' => e = .returned (.int .i64 r) ∧ w = w'))
    (b0 : V ≠ 5) (b1 : V ≠ 197) (b2 : V ≠ 198) (b3 : V ≠ 199) (b4 : V ≠ 200) :
    Calls Tryz.prog 119 #[.iface 5 p, .iface V z] w fun e w' => e = .returned (.int .i64 r) ∧ w = w' := by
  go_enter Tryz.func119, Tryz.ntmps119
  go_wp2_with ((go_at_call 126; refine HD.out.mono ?_; rintro e w' ⟨rfl, rfl⟩))
  go_ret
  exact ⟨rfl, rfl⟩

set_option maxRecDepth 100000 in
set_option maxHeartbeats 1000000 in
theorem con_u8 (p : Value) (w : World) :
    Calls Tryz.prog 119 #[.iface 5 p, .nilIface] w fun e w' => e = .returned (.int .i64 1) ∧ w = w' := by
  go_enter Tryz.func119, Tryz.ntmps119
  go_wp2
  go_ret
  exact ⟨rfl, rfl⟩

set_option maxRecDepth 100000 in
set_option maxHeartbeats 1000000 in
theorem cox_u16 (p z : Value) (V : TypeId) (r : Int) (w : World)
    (HD : Hid (Calls Tryz.prog 126 #[.iface 187 p, .iface V z] w fun e w' => e = .returned (.int .i64 r) ∧ w = w'))
    (b0 : V ≠ 187) (b1 : V ≠ 197) (b2 : V ≠ 198) (b3 : V ≠ 199) (b4 : V ≠ 200) :
    Calls Tryz.prog 119 #[.iface 187 p, .iface V z] w fun e w' => e = .returned (.int .i64 r) ∧ w = w' := by
  go_enter Tryz.func119, Tryz.ntmps119
  go_wp2_with ((go_at_call 126; refine HD.out.mono ?_; rintro e w' ⟨rfl, rfl⟩))
  go_ret
  exact ⟨rfl, rfl⟩

set_option maxRecDepth 100000 in
set_option maxHeartbeats 1000000 in
theorem con_u16 (p : Value) (w : World) :
    Calls Tryz.prog 119 #[.iface 187 p, .nilIface] w fun e w' => e = .returned (.int .i64 1) ∧ w = w' := by
  go_enter Tryz.func119, Tryz.ntmps119
  go_wp2
  go_ret
  exact ⟨rfl, rfl⟩

set_option maxRecDepth 100000 in
set_option maxHeartbeats 1000000 in
theorem cox_u32 (p z : Value) (V : TypeId) (r : Int) (w : World)
    (HD : Hid (Calls Tryz.prog 126 #[.iface 114 p, .iface V z] w fun e w' => e = .returned (.int .i64 r) ∧ w = w'))
    (b0 : V ≠ 114) (b1 : V ≠ 197) (b2 : V ≠ 198) (b3 : V ≠ 199) (b4 : V ≠ 200) :
    Calls Tryz.prog 119 #[.iface 114 p, .iface V z] w fun e w' => e = .returned (.int .i64 r) ∧ w = w' := by
  go_enter Tryz.func119, Tryz.ntmps119
  go_wp2_with ((go_at_call 126; refine HD.out.mono ?_; rintro e w' ⟨rfl, rfl⟩))
  go_ret
  exact ⟨rfl, rfl⟩

set_option maxRecDepth 100000 in
set_option maxHeartbeats 1000000 in
theorem con_u32 (p : Value) (w : World) :
    Calls Tryz.prog 119 #[.iface 114 p, .nilIface] w fun e w' => e = .returned (.int .i64 1) ∧ w = w' := by
  go_enter Tryz.func119, Tryz.ntmps119
  go_wp2
  go_ret
  exact ⟨rfl, rfl⟩

set_option maxRecDepth 100000 in
set_option maxHeartbeats 1000000 in
theorem cox_u64 (p z : Value) (V : TypeId) (r : Int) (w : World)
    (HD : Hid (Calls Tryz.prog 126 #[.iface 54 p, .iface V z] w fun e w' => e = .returned (.int .i64 r) ∧ w = w'))
    (b0 : V ≠ 54) (b1 : V ≠ 197) (b2 : V ≠ 198) (b3 : V ≠ 199) (b4 : V ≠ 200) :
    Calls Tryz.prog 119 #[.iface 54 p, .iface V z] w fun e w' => e = .returned (.int .i64 r) ∧ w = w' := by
  go_enter Tryz.func119, Tryz.ntmps119
  go_wp2_with ((go_at_call 126; refine HD.out.mono ?_; rintro e w' ⟨rfl, rfl⟩))
  go_ret
  exact ⟨rfl, rfl⟩

set_option maxRecDepth 100000 in
set_option maxHeartbeats 1000000 in
theorem con_u64 (p : Value) (w : World) :
    Calls Tryz.prog 119 #[.iface 54 p, .nilIface] w fun e w' => e = .returned (.int .i64 1) ∧ w = w' := by
  go_enter Tryz.func119, Tryz.ntmps119
  go_wp2
  go_ret
  exact ⟨rfl, rfl⟩

set_option maxRecDepth 100000 in
set_option maxHeartbeats 1000000 in
theorem cox_blob (p z : Value) (V : TypeId) (r : Int) (w : World)
    (HD : Hid (Calls Tryz.prog 126 #[.iface 188 p, .iface V z] w fun e w' => e = .returned (.int .i64 r) ∧ w = w'))
    (b0 : V ≠ 188) (b1 : V ≠ 197) (b2 : V ≠ 198) (b3 : V ≠ 199) (b4 : V ≠ 200) :
    Calls Tryz.prog 119 #[.iface 188 p, .iface V z] w fun e w' => e = .returned (.int .i64 r) ∧ w = w' := by
  go_enter Tryz.func119, Tryz.ntmps119
  go_wp2_with ((go_at_call 126; refine HD.out.mono ?_; rintro e w' ⟨rfl, rfl⟩))
  go_ret
  exact ⟨rfl, rfl⟩

set_option maxRecDepth 100000 in
set_option maxHeartbeats 1000000 in
theorem con_blob (p : Value) (w : World) :
    Calls Tryz.prog 119 #[.iface 188 p, .nilIface] w fun e w' => e = .returned (.int .i64 1) ∧ w = w' := by
  go_enter Tryz.func119, Tryz.ntmps119
  go_wp2
  go_ret
  exact ⟨rfl, rfl⟩

set_option maxRecDepth 100000 in
set_option maxHeartbeats 1000000 in
theorem con_null (w : World) : Calls Tryz.prog 119 #[.nilIface, .nilIface] w fun e w' => e = .returned (.int .i64 0) ∧ w = w' := by
  go_enter Tryz.func119, Tryz.ntmps119
  go_wp2
  go_ret
  exact ⟨rfl, rfl⟩

set_option maxRecDepth 100000 in
set_option maxHeartbeats 1000000 in
theorem cox_null (V : TypeId) (z : Value) (w : World) : Calls Tryz.prog 119 #[.nilIface, .iface V z] w fun e w' => e = .returned (.int .i64 (-1)) ∧ w = w' := by
  go_enter Tryz.func119, Tryz.ntmps119
  go_wp2
  go_ret
  exact ⟨rfl, rfl⟩

end Go.Proofs.YtffgkocokkhahaaGreatDoor
