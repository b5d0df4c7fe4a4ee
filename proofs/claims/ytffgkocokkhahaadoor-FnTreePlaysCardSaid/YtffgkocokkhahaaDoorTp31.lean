/-
  ql.collate1 of an integer and a literal: some number. PRINTED BY wip/tpl/gen_ycs.py.
-/
import Derived.Test.YtffgkocokkhahaaDoorTp28

/- ql.collate1 of an integer and a literal: some number. PRINTED BY wip/tpl/gen_ycs.py. -/
namespace Go.Proofs.YtffgkocokkhahaaDoor
open Go.RowKit

set_option maxRecDepth 100000 in
set_option maxHeartbeats 3200000 in
theorem cs_iInt_int (m : Int) (q : IntKind) (b : Int) (u v : Value) (w : World) (hu : Rep w (.iInt m) u) (hv : Rep w (.int q b) v) : Calls Tryd.prog 97 #[u, v] w (SomeC w) := by
  have HD := Lib.hid (diff_rep (.iInt m) (.int q b) u v w hu hv)
  obtain rfl : u = _ := hu
  obtain rfl : v = .iface (kindT q) (.int q b) := hv
  cases q <;>
  · simp only [kindT] at HD ⊢
    go_enter Tryd.func97, Tryd.ntmps97
    go_wp2_with (go_at_call 124; refine HD.out.mono ?_; rintro e w1 ⟨rfl, rfl⟩)
    all_goals
      go_ret
      exact ⟨_, rfl, Below.refl _ _⟩

set_option maxRecDepth 100000 in
set_option maxHeartbeats 3200000 in
theorem cs_iRune_int (m : Int) (q : IntKind) (b : Int) (u v : Value) (w : World) (hu : Rep w (.iRune m) u) (hv : Rep w (.int q b) v) : Calls Tryd.prog 97 #[u, v] w (SomeC w) := by
  have HD := Lib.hid (diff_rep (.iRune m) (.int q b) u v w hu hv)
  obtain rfl : u = _ := hu
  obtain rfl : v = .iface (kindT q) (.int q b) := hv
  cases q <;>
  · simp only [kindT] at HD ⊢
    go_enter Tryd.func97, Tryd.ntmps97
    go_wp2_with (go_at_call 124; refine HD.out.mono ?_; rintro e w1 ⟨rfl, rfl⟩)
    all_goals
      go_ret
      exact ⟨_, rfl, Below.refl _ _⟩

end Go.Proofs.YtffgkocokkhahaaDoor
