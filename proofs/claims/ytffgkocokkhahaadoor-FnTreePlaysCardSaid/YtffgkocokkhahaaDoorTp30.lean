/-
  ql.collate1 of an integer and a literal: some number. PRINTED BY wip/tpl/gen_ycs.py.
-/
import Derived.Test.YtffgkocokkhahaaDoorTp28

/- ql.collate1 of an integer and a literal: some number. PRINTED BY wip/tpl/gen_ycs.py. -/
namespace Go.Proofs.YtffgkocokkhahaaDoor
open Go.RowKit

set_option maxRecDepth 100000 in
set_option maxHeartbeats 3200000 in
theorem cs_int_iUint (q : IntKind) (b : Int) (m : Int) (u v : Value) (w : World) (hu : Rep w (.int q b) u) (hv : Rep w (.iUint m) v) : Calls Tryd.prog 97 #[u, v] w (SomeC w) := by
  have HD := Lib.hid (diff_rep (.int q b) (.iUint m) u v w hu hv)
  obtain rfl : u = .iface (kindT q) (.int q b) := hu
  obtain rfl : v = _ := hv
  cases q <;>
  · simp only [kindT] at HD ⊢
    go_enter Tryd.func97, Tryd.ntmps97
    go_wp2_with (go_at_call 124; refine HD.out.mono ?_; rintro e w1 ⟨rfl, rfl⟩)
    all_goals
      go_ret
      exact ⟨_, rfl, Below.refl _ _⟩

set_option maxRecDepth 100000 in
set_option maxHeartbeats 3200000 in
theorem cs_int_iFloat (q : IntKind) (b : Int) (m : Nat) (u v : Value) (w : World) (hu : Rep w (.int q b) u) (hv : Rep w (.iFloat m) v) : Calls Tryd.prog 97 #[u, v] w (SomeC w) := by
  have HD := Lib.hid (diff_rep (.int q b) (.iFloat m) u v w hu hv)
  obtain rfl : u = .iface (kindT q) (.int q b) := hu
  obtain rfl : v = _ := hv
  cases q <;>
  · simp only [kindT] at HD ⊢
    go_enter Tryd.func97, Tryd.ntmps97
    go_wp2_with (go_at_call 124; refine HD.out.mono ?_; rintro e w1 ⟨rfl, rfl⟩)
    all_goals
      go_ret
      exact ⟨_, rfl, Below.refl _ _⟩

end Go.Proofs.YtffgkocokkhahaaDoor
