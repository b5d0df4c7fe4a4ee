/-
  ql.typeCheck: signed integers that fit. PRINTED BY wip/tpl/gen_tc.py.
-/
import Derived.Test.YtiijcmdfbgoafaaDoorTc
namespace Go.Proofs.YtiijcmdfbgoafaaDoor
open Go.RowKit

set_option maxRecDepth 100000 in
set_option maxHeartbeats 1000000 in
theorem tc_i8_fit (n : Int) (h1 : -128 ≤ n) (h2 : n ≤ 127) (b c d : Nat) (w : World) (c0 : w.cell? ⟨b, 0, none⟩ = some (.iface 95 (.int .i64 n))) (f0 : w.frozen? ⟨b, 0, none⟩ = false) (c1 : w.cell? ⟨d, 0, none⟩ = some (.pointer (some ⟨c, 0, none⟩))) (c2 : w.cell? ⟨c, 0, none⟩ = some (.int .i64 0)) (c3 : w.cell? ⟨c, 2, none⟩ = some (.int .i64 105)) :
    Calls Tryd.prog 42 #[.slice (some ⟨b, 0, none⟩) 1 1, .slice (some ⟨d, 0, none⟩) 1 1] w fun e w' => e = .returned .nilIface ∧ w' = w.setCell ⟨b, 0, none⟩ (.iface 74 (.int .i8 n)) := by
  go_enter Tryd.func42, Tryd.ntmps42
  go_wp2
  refine wp_loop_rounds 2 ?_
  rw [rounds_succ]
  go_wp2
  rw [rounds_succ]
  go_wp2
  go_ret
  exact ⟨rfl, rfl⟩

set_option maxRecDepth 100000 in
set_option maxHeartbeats 1000000 in
theorem tc_i16_fit (n : Int) (h1 : -32768 ≤ n) (h2 : n ≤ 32767) (b c d : Nat) (w : World) (c0 : w.cell? ⟨b, 0, none⟩ = some (.iface 95 (.int .i64 n))) (f0 : w.frozen? ⟨b, 0, none⟩ = false) (c1 : w.cell? ⟨d, 0, none⟩ = some (.pointer (some ⟨c, 0, none⟩))) (c2 : w.cell? ⟨c, 0, none⟩ = some (.int .i64 0)) (c3 : w.cell? ⟨c, 2, none⟩ = some (.int .i64 106)) :
    Calls Tryd.prog 42 #[.slice (some ⟨b, 0, none⟩) 1 1, .slice (some ⟨d, 0, none⟩) 1 1] w fun e w' => e = .returned .nilIface ∧ w' = w.setCell ⟨b, 0, none⟩ (.iface 75 (.int .i16 n)) := by
  go_enter Tryd.func42, Tryd.ntmps42
  go_wp2
  refine wp_loop_rounds 2 ?_
  rw [rounds_succ]
  go_wp2
  rw [rounds_succ]
  go_wp2
  go_ret
  exact ⟨rfl, rfl⟩

set_option maxRecDepth 100000 in
set_option maxHeartbeats 1000000 in
theorem tc_i32_fit (n : Int) (h1 : -2147483648 ≤ n) (h2 : n ≤ 2147483647) (b c d : Nat) (w : World) (c0 : w.cell? ⟨b, 0, none⟩ = some (.iface 95 (.int .i64 n))) (f0 : w.frozen? ⟨b, 0, none⟩ = false) (c1 : w.cell? ⟨d, 0, none⟩ = some (.pointer (some ⟨c, 0, none⟩))) (c2 : w.cell? ⟨c, 0, none⟩ = some (.int .i64 0)) (c3 : w.cell? ⟨c, 2, none⟩ = some (.int .i64 107)) :
    Calls Tryd.prog 42 #[.slice (some ⟨b, 0, none⟩) 1 1, .slice (some ⟨d, 0, none⟩) 1 1] w fun e w' => e = .returned .nilIface ∧ w' = w.setCell ⟨b, 0, none⟩ (.iface 21 (.int .i32 n)) := by
  go_enter Tryd.func42, Tryd.ntmps42
  go_wp2
  refine wp_loop_rounds 2 ?_
  rw [rounds_succ]
  go_wp2
  rw [rounds_succ]
  go_wp2
  go_ret
  exact ⟨rfl, rfl⟩

set_option maxRecDepth 100000 in
set_option maxHeartbeats 1000000 in
theorem tc_i64_fit (n : Int) (h1 : -9223372036854775808 ≤ n) (h2 : n ≤ 9223372036854775807) (b c d : Nat) (w : World) (c0 : w.cell? ⟨b, 0, none⟩ = some (.iface 95 (.int .i64 n))) (f0 : w.frozen? ⟨b, 0, none⟩ = false) (c1 : w.cell? ⟨d, 0, none⟩ = some (.pointer (some ⟨c, 0, none⟩))) (c2 : w.cell? ⟨c, 0, none⟩ = some (.int .i64 0)) (c3 : w.cell? ⟨c, 2, none⟩ = some (.int .i64 108)) :
    Calls Tryd.prog 42 #[.slice (some ⟨b, 0, none⟩) 1 1, .slice (some ⟨d, 0, none⟩) 1 1] w fun e w' => e = .returned .nilIface ∧ w' = w.setCell ⟨b, 0, none⟩ (.iface 2 (.int .i64 n)) := by
  go_enter Tryd.func42, Tryd.ntmps42
  go_wp2
  refine wp_loop_rounds 2 ?_
  rw [rounds_succ]
  go_wp2
  rw [rounds_succ]
  go_wp2
  go_ret
  exact ⟨rfl, rfl⟩

end Go.Proofs.YtiijcmdfbgoafaaDoor
