/-
  ql.coerce1 (a literal with a point). PRINTED BY wip/tpl/gen_co1.py.
-/
import Derived.Test.YtamekjbdpcflfaaCo1z
namespace Go.Proofs.Ytamekjbdpcflfaa
open Go.RowKit

set_option maxRecDepth 100000 in
set_option maxHeartbeats 1000000 in
theorem co1_iFloat_bool (x : Nat) (z : Value) (w : World) :
    Calls Try.prog 56 #[.iface 73 (.float .f64 x), .iface 4 z] w fun e w' => e = .returned (.iface 73 (.float .f64 x)) ∧ w = w' := by
  go_enter Try.func56, Try.ntmps56
  go_wp2
  go_ret
  exact ⟨rfl, rfl⟩

set_option maxRecDepth 100000 in
set_option maxHeartbeats 1000000 in
theorem co1_iFloat_str (x : Nat) (z : Value) (w : World) :
    Calls Try.prog 56 #[.iface 73 (.float .f64 x), .iface 9 z] w fun e w' => e = .returned (.iface 73 (.float .f64 x)) ∧ w = w' := by
  go_enter Try.func56, Try.ntmps56
  go_wp2
  go_ret
  exact ⟨rfl, rfl⟩

set_option maxRecDepth 100000 in
set_option maxHeartbeats 1000000 in
theorem co1_iFloat_blob (x : Nat) (z : Value) (w : World) :
    Calls Try.prog 56 #[.iface 73 (.float .f64 x), .iface 64 z] w fun e w' => e = .returned (.iface 73 (.float .f64 x)) ∧ w = w' := by
  go_enter Try.func56, Try.ntmps56
  go_wp2
  go_ret
  exact ⟨rfl, rfl⟩

set_option maxRecDepth 100000 in
set_option maxHeartbeats 1000000 in
theorem co1_iFloat_iInt (x : Nat) (z : Value) (w : World) :
    Calls Try.prog 56 #[.iface 73 (.float .f64 x), .iface 74 z] w fun e w' => e = .returned (.iface 73 (.float .f64 x)) ∧ w = w' := by
  go_enter Try.func56, Try.ntmps56
  go_wp2
  go_ret
  exact ⟨rfl, rfl⟩

set_option maxRecDepth 100000 in
set_option maxHeartbeats 1000000 in
theorem co1_iFloat_iRune (x : Nat) (z : Value) (w : World) :
    Calls Try.prog 56 #[.iface 73 (.float .f64 x), .iface 75 z] w fun e w' => e = .returned (.iface 73 (.float .f64 x)) ∧ w = w' := by
  go_enter Try.func56, Try.ntmps56
  go_wp2
  go_ret
  exact ⟨rfl, rfl⟩

set_option maxRecDepth 100000 in
set_option maxHeartbeats 1000000 in
theorem co1_iFloat_iUint (x : Nat) (z : Value) (w : World) :
    Calls Try.prog 56 #[.iface 73 (.float .f64 x), .iface 76 z] w fun e w' => e = .returned (.iface 73 (.float .f64 x)) ∧ w = w' := by
  go_enter Try.func56, Try.ntmps56
  go_wp2
  go_ret
  exact ⟨rfl, rfl⟩

set_option maxRecDepth 100000 in
set_option maxHeartbeats 1000000 in
theorem co1_iFloat_iFloat (x : Nat) (z : Value) (w : World) :
    Calls Try.prog 56 #[.iface 73 (.float .f64 x), .iface 73 z] w fun e w' => e = .returned (.iface 73 (.float .f64 x)) ∧ w = w' := by
  go_enter Try.func56, Try.ntmps56
  go_wp2
  go_ret
  exact ⟨rfl, rfl⟩

set_option maxRecDepth 100000 in
set_option maxHeartbeats 1000000 in
theorem co1_iFloat_i8 (x : Nat) (z : Value) (w : World) :
    Calls Try.prog 56 #[.iface 73 (.float .f64 x), .iface 60 z] w fun e w' => e = .returned (.iface 73 (.float .f64 x)) ∧ w = w' := by
  go_enter Try.func56, Try.ntmps56
  go_wp2
  go_ret
  exact ⟨rfl, rfl⟩

set_option maxRecDepth 100000 in
set_option maxHeartbeats 1000000 in
theorem co1_iFloat_i16 (x : Nat) (z : Value) (w : World) :
    Calls Try.prog 56 #[.iface 73 (.float .f64 x), .iface 61 z] w fun e w' => e = .returned (.iface 73 (.float .f64 x)) ∧ w = w' := by
  go_enter Try.func56, Try.ntmps56
  go_wp2
  go_ret
  exact ⟨rfl, rfl⟩

set_option maxRecDepth 100000 in
set_option maxHeartbeats 1000000 in
theorem co1_iFloat_i32 (x : Nat) (z : Value) (w : World) :
    Calls Try.prog 56 #[.iface 73 (.float .f64 x), .iface 21 z] w fun e w' => e = .returned (.iface 73 (.float .f64 x)) ∧ w = w' := by
  go_enter Try.func56, Try.ntmps56
  go_wp2
  go_ret
  exact ⟨rfl, rfl⟩

set_option maxRecDepth 100000 in
set_option maxHeartbeats 1000000 in
theorem co1_iFloat_i64 (x : Nat) (z : Value) (w : World) :
    Calls Try.prog 56 #[.iface 73 (.float .f64 x), .iface 2 z] w fun e w' => e = .returned (.iface 73 (.float .f64 x)) ∧ w = w' := by
  go_enter Try.func56, Try.ntmps56
  go_wp2
  go_ret
  exact ⟨rfl, rfl⟩

set_option maxRecDepth 100000 in
set_option maxHeartbeats 1000000 in
theorem co1_iFloat_u8 (x : Nat) (z : Value) (w : World) :
    Calls Try.prog 56 #[.iface 73 (.float .f64 x), .iface 5 z] w fun e w' => e = .returned (.iface 73 (.float .f64 x)) ∧ w = w' := by
  go_enter Try.func56, Try.ntmps56
  go_wp2
  go_ret
  exact ⟨rfl, rfl⟩

set_option maxRecDepth 100000 in
set_option maxHeartbeats 1000000 in
theorem co1_iFloat_u16 (x : Nat) (z : Value) (w : World) :
    Calls Try.prog 56 #[.iface 73 (.float .f64 x), .iface 62 z] w fun e w' => e = .returned (.iface 73 (.float .f64 x)) ∧ w = w' := by
  go_enter Try.func56, Try.ntmps56
  go_wp2
  go_ret
  exact ⟨rfl, rfl⟩

set_option maxRecDepth 100000 in
set_option maxHeartbeats 1000000 in
theorem co1_iFloat_u32 (x : Nat) (z : Value) (w : World) :
    Calls Try.prog 56 #[.iface 73 (.float .f64 x), .iface 63 z] w fun e w' => e = .returned (.iface 73 (.float .f64 x)) ∧ w = w' := by
  go_enter Try.func56, Try.ntmps56
  go_wp2
  go_ret
  exact ⟨rfl, rfl⟩

set_option maxRecDepth 100000 in
set_option maxHeartbeats 1000000 in
theorem co1_iFloat_u64 (x : Nat) (z : Value) (w : World) :
    Calls Try.prog 56 #[.iface 73 (.float .f64 x), .iface 22 z] w fun e w' => e = .returned (.iface 73 (.float .f64 x)) ∧ w = w' := by
  go_enter Try.func56, Try.ntmps56
  go_wp2
  go_ret
  exact ⟨rfl, rfl⟩

set_option maxRecDepth 100000 in
set_option maxHeartbeats 1000000 in
theorem co1_iFloat_f64 (x : Nat) (z : Value) (w : World) :
    Calls Try.prog 56 #[.iface 73 (.float .f64 x), .iface 23 z] w fun e w' => e = .returned (.iface 23 (.float .f64 x)) ∧ w = w' := by
  go_enter Try.func56, Try.ntmps56
  go_wp2
  go_ret
  exact ⟨rfl, rfl⟩

set_option maxRecDepth 100000 in
set_option maxHeartbeats 1000000 in
theorem co1_iFloat_f32_num (x : Nat) (z : Value) (h : ((Ieee.single.read (Flt.down x)).isInfinity && !(Ieee.double.read x).isInfinity) = false) (h3 : (Ieee.double.read x).isNaN = false) (w : World) :
    Calls Try.prog 56 #[.iface 73 (.float .f64 x), .iface 46 z] w fun e w' => e = .returned (.iface 46 (.float .f32 (Flt.down x))) ∧ w = w' := by
  have c1 := fun W => run_narrow x h h3 W
  clear h h3
  go_enter Try.func56, Try.ntmps56
  go_wp2
  go_ret
  exact ⟨rfl, rfl⟩

set_option maxRecDepth 100000 in
set_option maxHeartbeats 1000000 in
theorem co1_iFloat_f32_nan (x : Nat) (z : Value) (h3 : (Ieee.double.read x).isNaN = true) (w : World) :
    Calls Try.prog 56 #[.iface 73 (.float .f64 x), .iface 46 z] w fun e w' => ∃ W, e = .returned (.iface 46 (.float .f32 (nan32 W x))) ∧ Below w.heap.size w w' := by
  have c1 := fun W => run_nan32 x h3 W
  clear h3
  go_enter Try.func56, Try.ntmps56
  go_wp2
  go_ret
  exact ⟨_, rfl, (Below.refl _ _).drew⟩

set_option maxRecDepth 100000 in
set_option maxHeartbeats 1000000 in
theorem co1_iFloat_f32_over (x : Nat) (z : Value) (h : (Ieee.single.read (Flt.down x)).isInfinity = true) (h2 : (Ieee.double.read x).isInfinity = false) (h3 : (Ieee.double.read x).isNaN = false) (w : World) :
    Calls Try.prog 56 #[.iface 73 (.float .f64 x), .iface 46 z] w fun e w' => ∃ W, e = .returned (.iface 46 (.float .f32 (over32 W x))) ∧ Below w.heap.size w w' := by
  have c1 := fun W => run_over32 x h h2 h3 W
  clear h h2 h3
  go_enter Try.func56, Try.ntmps56
  go_wp2
  go_ret
  exact ⟨_, rfl, (Below.refl _ _).drew⟩

end Go.Proofs.Ytamekjbdpcflfaa
