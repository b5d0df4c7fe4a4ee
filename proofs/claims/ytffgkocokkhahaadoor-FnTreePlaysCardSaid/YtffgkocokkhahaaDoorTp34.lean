/-
  ql.collate1 of a value and a literal: some number. PRINTED BY wip/tpl/gen_ycs.py. || ql.collate1 of a value and a literal: some number. PRINTED BY wip/tpl/gen_ycs.py.
-/
import Derived.Test.YtffgkocokkhahaaDoorTp28

/- ql.collate1 of a value and a literal: some number. PRINTED BY wip/tpl/gen_ycs.py. -/
namespace Go.Proofs.YtffgkocokkhahaaDoor
open Go.RowKit

set_option maxRecDepth 100000 in
set_option maxHeartbeats 1000000 in
theorem cs_iInt_bool (b : Int) (m : Bool) (u v : Value) (w : World) (hu : Rep w (.iInt b) u) (hv : Rep w (.bool m) v) : Calls Tryd.prog 97 #[u, v] w (SomeC w) := by
  have HD := Lib.hid (diff_rep (.iInt b) (.bool m) u v w hu hv)
  obtain rfl : u = _ := hu
  obtain rfl : v = _ := hv
  go_enter Tryd.func97, Tryd.ntmps97
  go_wp2_with (go_at_call 124; refine HD.out.mono ?_; rintro e w1 ⟨rfl, rfl⟩)
  all_goals
    go_ret
    exact ⟨_, rfl, Below.refl _ _⟩

set_option maxRecDepth 100000 in
set_option maxHeartbeats 1000000 in
theorem cs_iRune_bool (b : Int) (m : Bool) (u v : Value) (w : World) (hu : Rep w (.iRune b) u) (hv : Rep w (.bool m) v) : Calls Tryd.prog 97 #[u, v] w (SomeC w) := by
  have HD := Lib.hid (diff_rep (.iRune b) (.bool m) u v w hu hv)
  obtain rfl : u = _ := hu
  obtain rfl : v = _ := hv
  go_enter Tryd.func97, Tryd.ntmps97
  go_wp2_with (go_at_call 124; refine HD.out.mono ?_; rintro e w1 ⟨rfl, rfl⟩)
  all_goals
    go_ret
    exact ⟨_, rfl, Below.refl _ _⟩

set_option maxRecDepth 100000 in
set_option maxHeartbeats 1000000 in
theorem cs_iUint_bool (b : Int) (m : Bool) (u v : Value) (w : World) (hu : Rep w (.iUint b) u) (hv : Rep w (.bool m) v) : Calls Tryd.prog 97 #[u, v] w (SomeC w) := by
  have HD := Lib.hid (diff_rep (.iUint b) (.bool m) u v w hu hv)
  obtain rfl : u = _ := hu
  obtain rfl : v = _ := hv
  go_enter Tryd.func97, Tryd.ntmps97
  go_wp2_with (go_at_call 124; refine HD.out.mono ?_; rintro e w1 ⟨rfl, rfl⟩)
  all_goals
    go_ret
    exact ⟨_, rfl, Below.refl _ _⟩

set_option maxRecDepth 100000 in
set_option maxHeartbeats 1000000 in
theorem cs_iFloat_bool (b : Nat) (m : Bool) (u v : Value) (w : World) (hu : Rep w (.iFloat b) u) (hv : Rep w (.bool m) v) : Calls Tryd.prog 97 #[u, v] w (SomeC w) := by
  have HD := Lib.hid (diff_rep (.iFloat b) (.bool m) u v w hu hv)
  obtain rfl : u = _ := hu
  obtain rfl : v = _ := hv
  go_enter Tryd.func97, Tryd.ntmps97
  go_wp2_with (go_at_call 124; refine HD.out.mono ?_; rintro e w1 ⟨rfl, rfl⟩)
  all_goals
    go_ret
    exact ⟨_, rfl, Below.refl _ _⟩

set_option maxRecDepth 100000 in
set_option maxHeartbeats 1000000 in
theorem cs_iInt_str (b : Int) (m : ByteArray) (u v : Value) (w : World) (hu : Rep w (.iInt b) u) (hv : Rep w (.str m) v) : Calls Tryd.prog 97 #[u, v] w (SomeC w) := by
  have HD := Lib.hid (diff_rep (.iInt b) (.str m) u v w hu hv)
  obtain rfl : u = _ := hu
  obtain rfl : v = _ := hv
  go_enter Tryd.func97, Tryd.ntmps97
  go_wp2_with (go_at_call 124; refine HD.out.mono ?_; rintro e w1 ⟨rfl, rfl⟩)
  all_goals
    go_ret
    exact ⟨_, rfl, Below.refl _ _⟩

set_option maxRecDepth 100000 in
set_option maxHeartbeats 1000000 in
theorem cs_iRune_str (b : Int) (m : ByteArray) (u v : Value) (w : World) (hu : Rep w (.iRune b) u) (hv : Rep w (.str m) v) : Calls Tryd.prog 97 #[u, v] w (SomeC w) := by
  have HD := Lib.hid (diff_rep (.iRune b) (.str m) u v w hu hv)
  obtain rfl : u = _ := hu
  obtain rfl : v = _ := hv
  go_enter Tryd.func97, Tryd.ntmps97
  go_wp2_with (go_at_call 124; refine HD.out.mono ?_; rintro e w1 ⟨rfl, rfl⟩)
  all_goals
    go_ret
    exact ⟨_, rfl, Below.refl _ _⟩

set_option maxRecDepth 100000 in
set_option maxHeartbeats 1000000 in
theorem cs_iUint_str (b : Int) (m : ByteArray) (u v : Value) (w : World) (hu : Rep w (.iUint b) u) (hv : Rep w (.str m) v) : Calls Tryd.prog 97 #[u, v] w (SomeC w) := by
  have HD := Lib.hid (diff_rep (.iUint b) (.str m) u v w hu hv)
  obtain rfl : u = _ := hu
  obtain rfl : v = _ := hv
  go_enter Tryd.func97, Tryd.ntmps97
  go_wp2_with (go_at_call 124; refine HD.out.mono ?_; rintro e w1 ⟨rfl, rfl⟩)
  all_goals
    go_ret
    exact ⟨_, rfl, Below.refl _ _⟩

set_option maxRecDepth 100000 in
set_option maxHeartbeats 1000000 in
theorem cs_iFloat_str (b : Nat) (m : ByteArray) (u v : Value) (w : World) (hu : Rep w (.iFloat b) u) (hv : Rep w (.str m) v) : Calls Tryd.prog 97 #[u, v] w (SomeC w) := by
  have HD := Lib.hid (diff_rep (.iFloat b) (.str m) u v w hu hv)
  obtain rfl : u = _ := hu
  obtain rfl : v = _ := hv
  go_enter Tryd.func97, Tryd.ntmps97
  go_wp2_with (go_at_call 124; refine HD.out.mono ?_; rintro e w1 ⟨rfl, rfl⟩)
  all_goals
    go_ret
    exact ⟨_, rfl, Below.refl _ _⟩

set_option maxRecDepth 100000 in
set_option maxHeartbeats 1000000 in
theorem cs_iInt_f64 (b : Int) (m : Nat) (u v : Value) (w : World) (hu : Rep w (.iInt b) u) (hv : Rep w (.f64 m) v) : Calls Tryd.prog 97 #[u, v] w (SomeC w) := by
  have HD := Lib.hid (diff_rep (.iInt b) (.f64 m) u v w hu hv)
  obtain rfl : u = _ := hu
  obtain rfl : v = _ := hv
  go_enter Tryd.func97, Tryd.ntmps97
  go_wp2_with (go_at_call 124; refine HD.out.mono ?_; rintro e w1 ⟨rfl, rfl⟩)
  all_goals
    go_ret
    exact ⟨_, rfl, Below.refl _ _⟩

set_option maxRecDepth 100000 in
set_option maxHeartbeats 1000000 in
theorem cs_iRune_f64 (b : Int) (m : Nat) (u v : Value) (w : World) (hu : Rep w (.iRune b) u) (hv : Rep w (.f64 m) v) : Calls Tryd.prog 97 #[u, v] w (SomeC w) := by
  have HD := Lib.hid (diff_rep (.iRune b) (.f64 m) u v w hu hv)
  obtain rfl : u = _ := hu
  obtain rfl : v = _ := hv
  go_enter Tryd.func97, Tryd.ntmps97
  go_wp2_with (go_at_call 124; refine HD.out.mono ?_; rintro e w1 ⟨rfl, rfl⟩)
  all_goals
    go_ret
    exact ⟨_, rfl, Below.refl _ _⟩

set_option maxRecDepth 100000 in
set_option maxHeartbeats 1000000 in
theorem cs_iUint_f64 (b : Int) (m : Nat) (u v : Value) (w : World) (hu : Rep w (.iUint b) u) (hv : Rep w (.f64 m) v) : Calls Tryd.prog 97 #[u, v] w (SomeC w) := by
  have HD := Lib.hid (diff_rep (.iUint b) (.f64 m) u v w hu hv)
  obtain rfl : u = _ := hu
  obtain rfl : v = _ := hv
  go_enter Tryd.func97, Tryd.ntmps97
  go_wp2_with (go_at_call 124; refine HD.out.mono ?_; rintro e w1 ⟨rfl, rfl⟩)
  all_goals
    go_ret
    exact ⟨_, rfl, Below.refl _ _⟩

set_option maxRecDepth 100000 in
set_option maxHeartbeats 1000000 in
theorem cs_iFloat_f64 (b : Nat) (m : Nat) (u v : Value) (w : World) (hu : Rep w (.iFloat b) u) (hv : Rep w (.f64 m) v) : Calls Tryd.prog 97 #[u, v] w (SomeC w) := by
  have HD := Lib.hid (diff_rep (.iFloat b) (.f64 m) u v w hu hv)
  obtain rfl : u = _ := hu
  obtain rfl : v = _ := hv
  go_enter Tryd.func97, Tryd.ntmps97
  go_wp2_with (go_at_call 124; refine HD.out.mono ?_; rintro e w1 ⟨rfl, rfl⟩)
  all_goals
    go_ret
    exact ⟨_, rfl, Below.refl _ _⟩

set_option maxRecDepth 100000 in
set_option maxHeartbeats 1000000 in
theorem cs_iInt_blob (b : Int) (m : List UInt8) (u v : Value) (w : World) (hu : Rep w (.iInt b) u) (hv : Rep w (.blob m) v) : Calls Tryd.prog 97 #[u, v] w (SomeC w) := by
  have HD := Lib.hid (diff_rep (.iInt b) (.blob m) u v w hu hv)
  obtain rfl : u = _ := hu
  obtain ⟨a, cap, rfl, _⟩ := hv
  go_enter Tryd.func97, Tryd.ntmps97
  go_wp2_with (go_at_call 124; refine HD.out.mono ?_; rintro e w1 ⟨rfl, rfl⟩)
  all_goals
    go_ret
    exact ⟨_, rfl, Below.refl _ _⟩

set_option maxRecDepth 100000 in
set_option maxHeartbeats 1000000 in
theorem cs_iRune_blob (b : Int) (m : List UInt8) (u v : Value) (w : World) (hu : Rep w (.iRune b) u) (hv : Rep w (.blob m) v) : Calls Tryd.prog 97 #[u, v] w (SomeC w) := by
  have HD := Lib.hid (diff_rep (.iRune b) (.blob m) u v w hu hv)
  obtain rfl : u = _ := hu
  obtain ⟨a, cap, rfl, _⟩ := hv
  go_enter Tryd.func97, Tryd.ntmps97
  go_wp2_with (go_at_call 124; refine HD.out.mono ?_; rintro e w1 ⟨rfl, rfl⟩)
  all_goals
    go_ret
    exact ⟨_, rfl, Below.refl _ _⟩

set_option maxRecDepth 100000 in
set_option maxHeartbeats 1000000 in
theorem cs_iUint_blob (b : Int) (m : List UInt8) (u v : Value) (w : World) (hu : Rep w (.iUint b) u) (hv : Rep w (.blob m) v) : Calls Tryd.prog 97 #[u, v] w (SomeC w) := by
  have HD := Lib.hid (diff_rep (.iUint b) (.blob m) u v w hu hv)
  obtain rfl : u = _ := hu
  obtain ⟨a, cap, rfl, _⟩ := hv
  go_enter Tryd.func97, Tryd.ntmps97
  go_wp2_with (go_at_call 124; refine HD.out.mono ?_; rintro e w1 ⟨rfl, rfl⟩)
  all_goals
    go_ret
    exact ⟨_, rfl, Below.refl _ _⟩

set_option maxRecDepth 100000 in
set_option maxHeartbeats 1000000 in
theorem cs_iFloat_blob (b : Nat) (m : List UInt8) (u v : Value) (w : World) (hu : Rep w (.iFloat b) u) (hv : Rep w (.blob m) v) : Calls Tryd.prog 97 #[u, v] w (SomeC w) := by
  have HD := Lib.hid (diff_rep (.iFloat b) (.blob m) u v w hu hv)
  obtain rfl : u = _ := hu
  obtain ⟨a, cap, rfl, _⟩ := hv
  go_enter Tryd.func97, Tryd.ntmps97
  go_wp2_with (go_at_call 124; refine HD.out.mono ?_; rintro e w1 ⟨rfl, rfl⟩)
  all_goals
    go_ret
    exact ⟨_, rfl, Below.refl _ _⟩

end Go.Proofs.YtffgkocokkhahaaDoor

/- ql.collate1 of a value and a literal: some number. PRINTED BY wip/tpl/gen_ycs.py. -/
namespace Go.Proofs.YtffgkocokkhahaaDoor
open Go.RowKit

set_option maxRecDepth 100000 in
set_option maxHeartbeats 1000000 in
theorem cs_f32_iInt (b : Nat) (m : Int) (u v : Value) (w : World) (hu : Rep w (.f32 b) u) (hv : Rep w (.iInt m) v) : Calls Tryd.prog 97 #[u, v] w (SomeC w) := by
  have HD := Lib.hid (diff_rep (.f32 b) (.iInt m) u v w hu hv)
  obtain rfl : u = _ := hu
  obtain rfl : v = _ := hv
  go_enter Tryd.func97, Tryd.ntmps97
  go_wp2_with (go_at_call 124; refine HD.out.mono ?_; rintro e w1 ⟨rfl, rfl⟩)
  all_goals
    go_ret
    exact ⟨_, rfl, Below.refl _ _⟩

set_option maxRecDepth 100000 in
set_option maxHeartbeats 1000000 in
theorem cs_f32_iRune (b : Nat) (m : Int) (u v : Value) (w : World) (hu : Rep w (.f32 b) u) (hv : Rep w (.iRune m) v) : Calls Tryd.prog 97 #[u, v] w (SomeC w) := by
  have HD := Lib.hid (diff_rep (.f32 b) (.iRune m) u v w hu hv)
  obtain rfl : u = _ := hu
  obtain rfl : v = _ := hv
  go_enter Tryd.func97, Tryd.ntmps97
  go_wp2_with (go_at_call 124; refine HD.out.mono ?_; rintro e w1 ⟨rfl, rfl⟩)
  all_goals
    go_ret
    exact ⟨_, rfl, Below.refl _ _⟩

set_option maxRecDepth 100000 in
set_option maxHeartbeats 1000000 in
theorem cs_f32_iUint (b : Nat) (m : Int) (u v : Value) (w : World) (hu : Rep w (.f32 b) u) (hv : Rep w (.iUint m) v) : Calls Tryd.prog 97 #[u, v] w (SomeC w) := by
  have HD := Lib.hid (diff_rep (.f32 b) (.iUint m) u v w hu hv)
  obtain rfl : u = _ := hu
  obtain rfl : v = _ := hv
  go_enter Tryd.func97, Tryd.ntmps97
  go_wp2_with (go_at_call 124; refine HD.out.mono ?_; rintro e w1 ⟨rfl, rfl⟩)
  all_goals
    go_ret
    exact ⟨_, rfl, Below.refl _ _⟩

set_option maxRecDepth 100000 in
set_option maxHeartbeats 1000000 in
theorem cs_iInt_f32 (b : Int) (m : Nat) (u v : Value) (w : World) (hu : Rep w (.iInt b) u) (hv : Rep w (.f32 m) v) : Calls Tryd.prog 97 #[u, v] w (SomeC w) := by
  have HD := Lib.hid (diff_rep (.iInt b) (.f32 m) u v w hu hv)
  obtain rfl : u = _ := hu
  obtain rfl : v = _ := hv
  go_enter Tryd.func97, Tryd.ntmps97
  go_wp2_with (go_at_call 124; refine HD.out.mono ?_; rintro e w1 ⟨rfl, rfl⟩)
  all_goals
    go_ret
    exact ⟨_, rfl, Below.refl _ _⟩

set_option maxRecDepth 100000 in
set_option maxHeartbeats 1000000 in
theorem cs_iRune_f32 (b : Int) (m : Nat) (u v : Value) (w : World) (hu : Rep w (.iRune b) u) (hv : Rep w (.f32 m) v) : Calls Tryd.prog 97 #[u, v] w (SomeC w) := by
  have HD := Lib.hid (diff_rep (.iRune b) (.f32 m) u v w hu hv)
  obtain rfl : u = _ := hu
  obtain rfl : v = _ := hv
  go_enter Tryd.func97, Tryd.ntmps97
  go_wp2_with (go_at_call 124; refine HD.out.mono ?_; rintro e w1 ⟨rfl, rfl⟩)
  all_goals
    go_ret
    exact ⟨_, rfl, Below.refl _ _⟩

set_option maxRecDepth 100000 in
set_option maxHeartbeats 1000000 in
theorem cs_iUint_f32 (b : Int) (m : Nat) (u v : Value) (w : World) (hu : Rep w (.iUint b) u) (hv : Rep w (.f32 m) v) : Calls Tryd.prog 97 #[u, v] w (SomeC w) := by
  have HD := Lib.hid (diff_rep (.iUint b) (.f32 m) u v w hu hv)
  obtain rfl : u = _ := hu
  obtain rfl : v = _ := hv
  go_enter Tryd.func97, Tryd.ntmps97
  go_wp2_with (go_at_call 124; refine HD.out.mono ?_; rintro e w1 ⟨rfl, rfl⟩)
  all_goals
    go_ret
    exact ⟨_, rfl, Below.refl _ _⟩

end Go.Proofs.YtffgkocokkhahaaDoor
