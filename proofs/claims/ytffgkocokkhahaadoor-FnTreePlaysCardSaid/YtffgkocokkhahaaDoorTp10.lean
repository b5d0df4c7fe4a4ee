/-
  ql.collate1 of two values of different types, no literals. PRINTED BY wip/tpl/gen_col.py.
-/
import Derived.Test.YtffgkocokkhahaaDoorTp08
import Derived.Deep.RegionWith

/- ql.collate1 of two values of different types, no literals. PRINTED BY wip/tpl/gen_col.py. -/
namespace Go.Proofs.YtffgkocokkhahaaDoor
open Go.RowKit

set_option linter.unusedVariables false

def SV.ty : SV → TypeId
  | .bool _ => 4 | .int k _ => kindT k | .f32 _ => 121 | .f64 _ => 56 | .str _ => 9 | .blob _ => 202
  | _ => 0

/-- A value of a type that is not T. -/
theorem shape_not {w : World} {y : SV} {v : Value} (h : Rep w y v) (hy : y.isLit = false) (T : TypeId) (hT : y.ty ≠ T) : v = .nilIface ∨ ∃ V z, v = .iface V z ∧ V ≠ T ∧ V ≠ 252 ∧ V ≠ 249 ∧ V ≠ 250 ∧ V ≠ 251 := by
  cases y with
  | null => exact .inl h
  | blob l => obtain ⟨a, cap, rfl, _⟩ := h; exact .inr ⟨_, _, rfl, hT, by decide, by decide, by decide, by decide⟩
  | int q n => obtain rfl : v = _ := h; exact .inr ⟨_, _, rfl, hT, by cases q <;> decide, by cases q <;> decide, by cases q <;> decide, by cases q <;> decide⟩
  | iInt n => exact absurd hy (by simp [SV.isLit])
  | iRune n => exact absurd hy (by simp [SV.isLit])
  | iUint n => exact absurd hy (by simp [SV.isLit])
  | iFloat n => exact absurd hy (by simp [SV.isLit])
  | _ => exact .inr ⟨_, _, h, hT, by decide, by decide, by decide, by decide⟩

set_option maxRecDepth 100000 in
set_option maxHeartbeats 1000000 in
theorem cox_bool (p z : Value) (V : TypeId) (r : Int) (w : World)
    (HD : Hid (Calls Tryd.prog 124 #[.iface 4 p, .iface V z] w fun e w' => e = .returned (.int .i64 r) ∧ w = w'))
    (b0 : V ≠ 4) (b1 : V ≠ 252) (b2 : V ≠ 249) (b3 : V ≠ 250) (b4 : V ≠ 251) :
    Calls Tryd.prog 97 #[.iface 4 p, .iface V z] w fun e w' => e = .returned (.int .i64 (-1)) ∧ w = w' := by
  go_enter Tryd.func97, Tryd.ntmps97
  go_wp2_with ((go_at_call 124; refine HD.out.mono ?_; rintro e w' ⟨rfl, rfl⟩))
  go_ret
  exact ⟨rfl, rfl⟩

set_option maxRecDepth 100000 in
set_option maxHeartbeats 1000000 in
theorem con_bool (p : Value) (w : World) :
    Calls Tryd.prog 97 #[.iface 4 p, .nilIface] w fun e w' => e = .returned (.int .i64 1) ∧ w = w' := by
  go_enter Tryd.func97, Tryd.ntmps97
  go_wp2
  go_ret
  exact ⟨rfl, rfl⟩

set_option maxRecDepth 100000 in
set_option maxHeartbeats 1000000 in
theorem cox_f32 (p z : Value) (V : TypeId) (r : Int) (w : World)
    (HD : Hid (Calls Tryd.prog 124 #[.iface 121 p, .iface V z] w fun e w' => e = .returned (.int .i64 r) ∧ w = w'))
    (b0 : V ≠ 121) (b1 : V ≠ 252) (b2 : V ≠ 249) (b3 : V ≠ 250) (b4 : V ≠ 251) :
    Calls Tryd.prog 97 #[.iface 121 p, .iface V z] w fun e w' => e = .returned (.int .i64 r) ∧ w = w' := by
  go_enter Tryd.func97, Tryd.ntmps97
  go_wp2_with ((go_at_call 124; refine HD.out.mono ?_; rintro e w' ⟨rfl, rfl⟩))
  go_ret
  exact ⟨rfl, rfl⟩

set_option maxRecDepth 100000 in
set_option maxHeartbeats 1000000 in
theorem con_f32 (p : Value) (w : World) :
    Calls Tryd.prog 97 #[.iface 121 p, .nilIface] w fun e w' => e = .returned (.int .i64 1) ∧ w = w' := by
  go_enter Tryd.func97, Tryd.ntmps97
  go_wp2
  go_ret
  exact ⟨rfl, rfl⟩

set_option maxRecDepth 100000 in
set_option maxHeartbeats 1000000 in
theorem cox_f64 (p z : Value) (V : TypeId) (r : Int) (w : World)
    (HD : Hid (Calls Tryd.prog 124 #[.iface 56 p, .iface V z] w fun e w' => e = .returned (.int .i64 r) ∧ w = w'))
    (b0 : V ≠ 56) (b1 : V ≠ 252) (b2 : V ≠ 249) (b3 : V ≠ 250) (b4 : V ≠ 251) :
    Calls Tryd.prog 97 #[.iface 56 p, .iface V z] w fun e w' => e = .returned (.int .i64 r) ∧ w = w' := by
  go_enter Tryd.func97, Tryd.ntmps97
  go_wp2_with ((go_at_call 124; refine HD.out.mono ?_; rintro e w' ⟨rfl, rfl⟩))
  go_ret
  exact ⟨rfl, rfl⟩

set_option maxRecDepth 100000 in
set_option maxHeartbeats 1000000 in
theorem con_f64 (p : Value) (w : World) :
    Calls Tryd.prog 97 #[.iface 56 p, .nilIface] w fun e w' => e = .returned (.int .i64 1) ∧ w = w' := by
  go_enter Tryd.func97, Tryd.ntmps97
  go_wp2
  go_ret
  exact ⟨rfl, rfl⟩

set_option maxRecDepth 100000 in
set_option maxHeartbeats 1000000 in
theorem cox_str (p z : Value) (V : TypeId) (r : Int) (w : World)
    (HD : Hid (Calls Tryd.prog 124 #[.iface 9 p, .iface V z] w fun e w' => e = .returned (.int .i64 r) ∧ w = w'))
    (b0 : V ≠ 9) (b1 : V ≠ 252) (b2 : V ≠ 249) (b3 : V ≠ 250) (b4 : V ≠ 251) :
    Calls Tryd.prog 97 #[.iface 9 p, .iface V z] w fun e w' => e = .returned (.int .i64 r) ∧ w = w' := by
  go_enter Tryd.func97, Tryd.ntmps97
  go_wp2_with ((go_at_call 124; refine HD.out.mono ?_; rintro e w' ⟨rfl, rfl⟩))
  go_ret
  exact ⟨rfl, rfl⟩

set_option maxRecDepth 100000 in
set_option maxHeartbeats 1000000 in
theorem con_str (p : Value) (w : World) :
    Calls Tryd.prog 97 #[.iface 9 p, .nilIface] w fun e w' => e = .returned (.int .i64 1) ∧ w = w' := by
  go_enter Tryd.func97, Tryd.ntmps97
  go_wp2
  go_ret
  exact ⟨rfl, rfl⟩

set_option maxRecDepth 100000 in
set_option maxHeartbeats 1000000 in
theorem cox_i8 (p z : Value) (V : TypeId) (r : Int) (w : World)
    (HD : Hid (Calls Tryd.prog 124 #[.iface 199 p, .iface V z] w fun e w' => e = .returned (.int .i64 r) ∧ w = w'))
    (b0 : V ≠ 199) (b1 : V ≠ 252) (b2 : V ≠ 249) (b3 : V ≠ 250) (b4 : V ≠ 251) :
    Calls Tryd.prog 97 #[.iface 199 p, .iface V z] w fun e w' => e = .returned (.int .i64 r) ∧ w = w' := by
  go_enter Tryd.func97, Tryd.ntmps97
  go_wp2_with ((go_at_call 124; refine HD.out.mono ?_; rintro e w' ⟨rfl, rfl⟩))
  go_ret
  exact ⟨rfl, rfl⟩

set_option maxRecDepth 100000 in
set_option maxHeartbeats 1000000 in
theorem con_i8 (p : Value) (w : World) :
    Calls Tryd.prog 97 #[.iface 199 p, .nilIface] w fun e w' => e = .returned (.int .i64 1) ∧ w = w' := by
  go_enter Tryd.func97, Tryd.ntmps97
  go_wp2
  go_ret
  exact ⟨rfl, rfl⟩

set_option maxRecDepth 100000 in
set_option maxHeartbeats 1000000 in
theorem cox_i16 (p z : Value) (V : TypeId) (r : Int) (w : World)
    (HD : Hid (Calls Tryd.prog 124 #[.iface 200 p, .iface V z] w fun e w' => e = .returned (.int .i64 r) ∧ w = w'))
    (b0 : V ≠ 200) (b1 : V ≠ 252) (b2 : V ≠ 249) (b3 : V ≠ 250) (b4 : V ≠ 251) :
    Calls Tryd.prog 97 #[.iface 200 p, .iface V z] w fun e w' => e = .returned (.int .i64 r) ∧ w = w' := by
  go_enter Tryd.func97, Tryd.ntmps97
  go_wp2_with ((go_at_call 124; refine HD.out.mono ?_; rintro e w' ⟨rfl, rfl⟩))
  go_ret
  exact ⟨rfl, rfl⟩

set_option maxRecDepth 100000 in
set_option maxHeartbeats 1000000 in
theorem con_i16 (p : Value) (w : World) :
    Calls Tryd.prog 97 #[.iface 200 p, .nilIface] w fun e w' => e = .returned (.int .i64 1) ∧ w = w' := by
  go_enter Tryd.func97, Tryd.ntmps97
  go_wp2
  go_ret
  exact ⟨rfl, rfl⟩

set_option maxRecDepth 100000 in
set_option maxHeartbeats 1000000 in
theorem cox_i32 (p z : Value) (V : TypeId) (r : Int) (w : World)
    (HD : Hid (Calls Tryd.prog 124 #[.iface 21 p, .iface V z] w fun e w' => e = .returned (.int .i64 r) ∧ w = w'))
    (b0 : V ≠ 21) (b1 : V ≠ 252) (b2 : V ≠ 249) (b3 : V ≠ 250) (b4 : V ≠ 251) :
    Calls Tryd.prog 97 #[.iface 21 p, .iface V z] w fun e w' => e = .returned (.int .i64 r) ∧ w = w' := by
  go_enter Tryd.func97, Tryd.ntmps97
  go_wp2_with ((go_at_call 124; refine HD.out.mono ?_; rintro e w' ⟨rfl, rfl⟩))
  go_ret
  exact ⟨rfl, rfl⟩

set_option maxRecDepth 100000 in
set_option maxHeartbeats 1000000 in
theorem con_i32 (p : Value) (w : World) :
    Calls Tryd.prog 97 #[.iface 21 p, .nilIface] w fun e w' => e = .returned (.int .i64 1) ∧ w = w' := by
  go_enter Tryd.func97, Tryd.ntmps97
  go_wp2
  go_ret
  exact ⟨rfl, rfl⟩

set_option maxRecDepth 100000 in
set_option maxHeartbeats 1000000 in
theorem cox_i64 (p z : Value) (V : TypeId) (r : Int) (w : World)
    (HD : Hid (Calls Tryd.prog 124 #[.iface 2 p, .iface V z] w fun e w' => e = .returned (.int .i64 r) ∧ w = w'))
    (b0 : V ≠ 2) (b1 : V ≠ 252) (b2 : V ≠ 249) (b3 : V ≠ 250) (b4 : V ≠ 251) :
    Calls Tryd.prog 97 #[.iface 2 p, .iface V z] w fun e w' => e = .returned (.int .i64 r) ∧ w = w' := by
  go_enter Tryd.func97, Tryd.ntmps97
  go_wp2_with ((go_at_call 124; refine HD.out.mono ?_; rintro e w' ⟨rfl, rfl⟩))
  go_ret
  exact ⟨rfl, rfl⟩

set_option maxRecDepth 100000 in
set_option maxHeartbeats 1000000 in
theorem con_i64 (p : Value) (w : World) :
    Calls Tryd.prog 97 #[.iface 2 p, .nilIface] w fun e w' => e = .returned (.int .i64 1) ∧ w = w' := by
  go_enter Tryd.func97, Tryd.ntmps97
  go_wp2
  go_ret
  exact ⟨rfl, rfl⟩

set_option maxRecDepth 100000 in
set_option maxHeartbeats 1000000 in
theorem cox_u8 (p z : Value) (V : TypeId) (r : Int) (w : World)
    (HD : Hid (Calls Tryd.prog 124 #[.iface 5 p, .iface V z] w fun e w' => e = .returned (.int .i64 r) ∧ w = w'))
    (b0 : V ≠ 5) (b1 : V ≠ 252) (b2 : V ≠ 249) (b3 : V ≠ 250) (b4 : V ≠ 251) :
    Calls Tryd.prog 97 #[.iface 5 p, .iface V z] w fun e w' => e = .returned (.int .i64 r) ∧ w = w' := by
  go_enter Tryd.func97, Tryd.ntmps97
  go_wp2_with ((go_at_call 124; refine HD.out.mono ?_; rintro e w' ⟨rfl, rfl⟩))
  go_ret
  exact ⟨rfl, rfl⟩

set_option maxRecDepth 100000 in
set_option maxHeartbeats 1000000 in
theorem con_u8 (p : Value) (w : World) :
    Calls Tryd.prog 97 #[.iface 5 p, .nilIface] w fun e w' => e = .returned (.int .i64 1) ∧ w = w' := by
  go_enter Tryd.func97, Tryd.ntmps97
  go_wp2
  go_ret
  exact ⟨rfl, rfl⟩

set_option maxRecDepth 100000 in
set_option maxHeartbeats 1000000 in
theorem cox_u16 (p z : Value) (V : TypeId) (r : Int) (w : World)
    (HD : Hid (Calls Tryd.prog 124 #[.iface 201 p, .iface V z] w fun e w' => e = .returned (.int .i64 r) ∧ w = w'))
    (b0 : V ≠ 201) (b1 : V ≠ 252) (b2 : V ≠ 249) (b3 : V ≠ 250) (b4 : V ≠ 251) :
    Calls Tryd.prog 97 #[.iface 201 p, .iface V z] w fun e w' => e = .returned (.int .i64 r) ∧ w = w' := by
  go_enter Tryd.func97, Tryd.ntmps97
  go_wp2_with ((go_at_call 124; refine HD.out.mono ?_; rintro e w' ⟨rfl, rfl⟩))
  go_ret
  exact ⟨rfl, rfl⟩

set_option maxRecDepth 100000 in
set_option maxHeartbeats 1000000 in
theorem con_u16 (p : Value) (w : World) :
    Calls Tryd.prog 97 #[.iface 201 p, .nilIface] w fun e w' => e = .returned (.int .i64 1) ∧ w = w' := by
  go_enter Tryd.func97, Tryd.ntmps97
  go_wp2
  go_ret
  exact ⟨rfl, rfl⟩

set_option maxRecDepth 100000 in
set_option maxHeartbeats 1000000 in
theorem cox_u32 (p z : Value) (V : TypeId) (r : Int) (w : World)
    (HD : Hid (Calls Tryd.prog 124 #[.iface 156 p, .iface V z] w fun e w' => e = .returned (.int .i64 r) ∧ w = w'))
    (b0 : V ≠ 156) (b1 : V ≠ 252) (b2 : V ≠ 249) (b3 : V ≠ 250) (b4 : V ≠ 251) :
    Calls Tryd.prog 97 #[.iface 156 p, .iface V z] w fun e w' => e = .returned (.int .i64 r) ∧ w = w' := by
  go_enter Tryd.func97, Tryd.ntmps97
  go_wp2_with ((go_at_call 124; refine HD.out.mono ?_; rintro e w' ⟨rfl, rfl⟩))
  go_ret
  exact ⟨rfl, rfl⟩

set_option maxRecDepth 100000 in
set_option maxHeartbeats 1000000 in
theorem con_u32 (p : Value) (w : World) :
    Calls Tryd.prog 97 #[.iface 156 p, .nilIface] w fun e w' => e = .returned (.int .i64 1) ∧ w = w' := by
  go_enter Tryd.func97, Tryd.ntmps97
  go_wp2
  go_ret
  exact ⟨rfl, rfl⟩

set_option maxRecDepth 100000 in
set_option maxHeartbeats 1000000 in
theorem cox_u64 (p z : Value) (V : TypeId) (r : Int) (w : World)
    (HD : Hid (Calls Tryd.prog 124 #[.iface 55 p, .iface V z] w fun e w' => e = .returned (.int .i64 r) ∧ w = w'))
    (b0 : V ≠ 55) (b1 : V ≠ 252) (b2 : V ≠ 249) (b3 : V ≠ 250) (b4 : V ≠ 251) :
    Calls Tryd.prog 97 #[.iface 55 p, .iface V z] w fun e w' => e = .returned (.int .i64 r) ∧ w = w' := by
  go_enter Tryd.func97, Tryd.ntmps97
  go_wp2_with ((go_at_call 124; refine HD.out.mono ?_; rintro e w' ⟨rfl, rfl⟩))
  go_ret
  exact ⟨rfl, rfl⟩

set_option maxRecDepth 100000 in
set_option maxHeartbeats 1000000 in
theorem con_u64 (p : Value) (w : World) :
    Calls Tryd.prog 97 #[.iface 55 p, .nilIface] w fun e w' => e = .returned (.int .i64 1) ∧ w = w' := by
  go_enter Tryd.func97, Tryd.ntmps97
  go_wp2
  go_ret
  exact ⟨rfl, rfl⟩

set_option maxRecDepth 100000 in
set_option maxHeartbeats 1000000 in
theorem cox_blob (p z : Value) (V : TypeId) (r : Int) (w : World)
    (HD : Hid (Calls Tryd.prog 124 #[.iface 202 p, .iface V z] w fun e w' => e = .returned (.int .i64 r) ∧ w = w'))
    (b0 : V ≠ 202) (b1 : V ≠ 252) (b2 : V ≠ 249) (b3 : V ≠ 250) (b4 : V ≠ 251) :
    Calls Tryd.prog 97 #[.iface 202 p, .iface V z] w fun e w' => e = .returned (.int .i64 r) ∧ w = w' := by
  go_enter Tryd.func97, Tryd.ntmps97
  go_wp2_with ((go_at_call 124; refine HD.out.mono ?_; rintro e w' ⟨rfl, rfl⟩))
  go_ret
  exact ⟨rfl, rfl⟩

set_option maxRecDepth 100000 in
set_option maxHeartbeats 1000000 in
theorem con_blob (p : Value) (w : World) :
    Calls Tryd.prog 97 #[.iface 202 p, .nilIface] w fun e w' => e = .returned (.int .i64 1) ∧ w = w' := by
  go_enter Tryd.func97, Tryd.ntmps97
  go_wp2
  go_ret
  exact ⟨rfl, rfl⟩

set_option maxRecDepth 100000 in
set_option maxHeartbeats 1000000 in
theorem con_null (w : World) : Calls Tryd.prog 97 #[.nilIface, .nilIface] w fun e w' => e = .returned (.int .i64 0) ∧ w = w' := by
  go_enter Tryd.func97, Tryd.ntmps97
  go_wp2
  go_ret
  exact ⟨rfl, rfl⟩

set_option maxRecDepth 100000 in
set_option maxHeartbeats 1000000 in
theorem cox_null (V : TypeId) (z : Value) (w : World) : Calls Tryd.prog 97 #[.nilIface, .iface V z] w fun e w' => e = .returned (.int .i64 (-1)) ∧ w = w' := by
  go_enter Tryd.func97, Tryd.ntmps97
  go_wp2
  go_ret
  exact ⟨rfl, rfl⟩

end Go.Proofs.YtffgkocokkhahaaDoor
