/-
  ql.typeCheck: signed integers that do not fit. PRINTED BY wip/tpl/gen_tc.py.
-/
import Derived.Test.YtiijcmdfbgoafaaDoorTc
namespace Go.Proofs.YtiijcmdfbgoafaaDoor
open Go.RowKit

set_option maxRecDepth 100000 in
set_option maxHeartbeats 1000000 in
theorem tc_i8_lo (n : Int) (h1 : n < -128) (b c d : Nat) (w : World) (c0 : w.cell? ⟨b, 0, none⟩ = some (.iface 95 (.int .i64 n))) (c1 : w.cell? ⟨d, 0, none⟩ = some (.pointer (some ⟨c, 0, none⟩))) (c2 : w.cell? ⟨c, 0, none⟩ = some (.int .i64 0)) (c3 : w.cell? ⟨c, 2, none⟩ = some (.int .i64 105)) :
    Calls Tryd.prog 42 #[.slice (some ⟨b, 0, none⟩) 1 1, .slice (some ⟨d, 0, none⟩) 1 1] w (ErPost w) := by
  go_enter Tryd.func42, Tryd.ntmps42
  go_wp2
  refine wp_loop_rounds 2 ?_
  rw [rounds_succ]
  go_wp2_with (first | (go_at_call 55; refine (overflow_er _ _ _).mono ?_; rintro e w1 ⟨p, rfl, he, hb1⟩; have HE := Lib.hid he; clear he) | go_in)
  go_ret
  exact ⟨p, rfl, HE.out, hb1⟩

set_option maxRecDepth 100000 in
set_option maxHeartbeats 1000000 in
theorem tc_i8_hi (n : Int) (h1 : -128 ≤ n) (h2 : 127 < n) (b c d : Nat) (w : World) (c0 : w.cell? ⟨b, 0, none⟩ = some (.iface 95 (.int .i64 n))) (c1 : w.cell? ⟨d, 0, none⟩ = some (.pointer (some ⟨c, 0, none⟩))) (c2 : w.cell? ⟨c, 0, none⟩ = some (.int .i64 0)) (c3 : w.cell? ⟨c, 2, none⟩ = some (.int .i64 105)) :
    Calls Tryd.prog 42 #[.slice (some ⟨b, 0, none⟩) 1 1, .slice (some ⟨d, 0, none⟩) 1 1] w (ErPost w) := by
  go_enter Tryd.func42, Tryd.ntmps42
  go_wp2
  refine wp_loop_rounds 2 ?_
  rw [rounds_succ]
  go_wp2_with (first | (go_at_call 55; refine (overflow_er _ _ _).mono ?_; rintro e w1 ⟨p, rfl, he, hb1⟩; have HE := Lib.hid he; clear he) | go_in)
  go_ret
  exact ⟨p, rfl, HE.out, hb1⟩

set_option maxRecDepth 100000 in
set_option maxHeartbeats 1000000 in
theorem tc_i16_lo (n : Int) (h1 : n < -32768) (b c d : Nat) (w : World) (c0 : w.cell? ⟨b, 0, none⟩ = some (.iface 95 (.int .i64 n))) (c1 : w.cell? ⟨d, 0, none⟩ = some (.pointer (some ⟨c, 0, none⟩))) (c2 : w.cell? ⟨c, 0, none⟩ = some (.int .i64 0)) (c3 : w.cell? ⟨c, 2, none⟩ = some (.int .i64 106)) :
    Calls Tryd.prog 42 #[.slice (some ⟨b, 0, none⟩) 1 1, .slice (some ⟨d, 0, none⟩) 1 1] w (ErPost w) := by
  go_enter Tryd.func42, Tryd.ntmps42
  go_wp2
  refine wp_loop_rounds 2 ?_
  rw [rounds_succ]
  go_wp2_with (first | (go_at_call 55; refine (overflow_er _ _ _).mono ?_; rintro e w1 ⟨p, rfl, he, hb1⟩; have HE := Lib.hid he; clear he) | go_in)
  go_ret
  exact ⟨p, rfl, HE.out, hb1⟩

set_option maxRecDepth 100000 in
set_option maxHeartbeats 1000000 in
theorem tc_i16_hi (n : Int) (h1 : -32768 ≤ n) (h2 : 32767 < n) (b c d : Nat) (w : World) (c0 : w.cell? ⟨b, 0, none⟩ = some (.iface 95 (.int .i64 n))) (c1 : w.cell? ⟨d, 0, none⟩ = some (.pointer (some ⟨c, 0, none⟩))) (c2 : w.cell? ⟨c, 0, none⟩ = some (.int .i64 0)) (c3 : w.cell? ⟨c, 2, none⟩ = some (.int .i64 106)) :
    Calls Tryd.prog 42 #[.slice (some ⟨b, 0, none⟩) 1 1, .slice (some ⟨d, 0, none⟩) 1 1] w (ErPost w) := by
  go_enter Tryd.func42, Tryd.ntmps42
  go_wp2
  refine wp_loop_rounds 2 ?_
  rw [rounds_succ]
  go_wp2_with (first | (go_at_call 55; refine (overflow_er _ _ _).mono ?_; rintro e w1 ⟨p, rfl, he, hb1⟩; have HE := Lib.hid he; clear he) | go_in)
  go_ret
  exact ⟨p, rfl, HE.out, hb1⟩

set_option maxRecDepth 100000 in
set_option maxHeartbeats 1000000 in
theorem tc_i32_lo (n : Int) (h1 : n < -2147483648) (b c d : Nat) (w : World) (c0 : w.cell? ⟨b, 0, none⟩ = some (.iface 95 (.int .i64 n))) (c1 : w.cell? ⟨d, 0, none⟩ = some (.pointer (some ⟨c, 0, none⟩))) (c2 : w.cell? ⟨c, 0, none⟩ = some (.int .i64 0)) (c3 : w.cell? ⟨c, 2, none⟩ = some (.int .i64 107)) :
    Calls Tryd.prog 42 #[.slice (some ⟨b, 0, none⟩) 1 1, .slice (some ⟨d, 0, none⟩) 1 1] w (ErPost w) := by
  go_enter Tryd.func42, Tryd.ntmps42
  go_wp2
  refine wp_loop_rounds 2 ?_
  rw [rounds_succ]
  go_wp2_with (first | (go_at_call 55; refine (overflow_er _ _ _).mono ?_; rintro e w1 ⟨p, rfl, he, hb1⟩; have HE := Lib.hid he; clear he) | go_in)
  go_ret
  exact ⟨p, rfl, HE.out, hb1⟩

set_option maxRecDepth 100000 in
set_option maxHeartbeats 1000000 in
theorem tc_i32_hi (n : Int) (h1 : -2147483648 ≤ n) (h2 : 2147483647 < n) (b c d : Nat) (w : World) (c0 : w.cell? ⟨b, 0, none⟩ = some (.iface 95 (.int .i64 n))) (c1 : w.cell? ⟨d, 0, none⟩ = some (.pointer (some ⟨c, 0, none⟩))) (c2 : w.cell? ⟨c, 0, none⟩ = some (.int .i64 0)) (c3 : w.cell? ⟨c, 2, none⟩ = some (.int .i64 107)) :
    Calls Tryd.prog 42 #[.slice (some ⟨b, 0, none⟩) 1 1, .slice (some ⟨d, 0, none⟩) 1 1] w (ErPost w) := by
  go_enter Tryd.func42, Tryd.ntmps42
  go_wp2
  refine wp_loop_rounds 2 ?_
  rw [rounds_succ]
  go_wp2_with (first | (go_at_call 55; refine (overflow_er _ _ _).mono ?_; rintro e w1 ⟨p, rfl, he, hb1⟩; have HE := Lib.hid he; clear he) | go_in)
  go_ret
  exact ⟨p, rfl, HE.out, hb1⟩

end Go.Proofs.YtiijcmdfbgoafaaDoor
