/-
  ql.typeCheck of one literal integer in one column of integers. PRINTED BY wip/tpl/gen_tc.py.
-/
import Derived.Test.YtiijcmdfbgoafaaDoorTold
import Derived.Test.YtiijcmdfbgoafaaDoorFita
import Derived.LoopN
namespace Go.Proofs.YtiijcmdfbgoafaaDoor
open Go.RowKit

set_option maxRecDepth 100000 in
set_option maxHeartbeats 1000000 in
theorem overflow_er (v : Value) (t : Int) (w : World) : Calls Tryd.prog 55 #[v, .int .i64 t] w (ErPost w) := by
  go_enter Tryd.func55, Tryd.ntmps55
  go_wp2_with (go_at_call 56; refine (errNew_er _ _).mono ?_; rintro e w1 ⟨p, rfl, he, hb1⟩; have HE := Lib.hid he; clear he)
  go_ret
  exact ⟨p, rfl, HE.out, hb1⟩

end Go.Proofs.YtiijcmdfbgoafaaDoor
