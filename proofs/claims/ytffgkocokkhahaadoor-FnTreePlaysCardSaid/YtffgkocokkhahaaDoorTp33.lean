/-
  ql.collate1 of a value and a literal: some number. PRINTED BY wip/tpl/gen_ycs.py.
-/
import Derived.Test.YtffgkocokkhahaaDoorTp28

/- ql.collate1 of a value and a literal: some number. PRINTED BY wip/tpl/gen_ycs.py. -/
namespace Go.Proofs.YtffgkocokkhahaaDoor
open Go.RowKit

set_option maxRecDepth 100000 in
set_option maxHeartbeats 1000000 in
theorem cs_bool_iInt (b : Bool) (m : Int) (u v : Value) (w : World) (hu : Rep w (.bool b) u) (hv : Rep w (.iInt m) v) : Calls Tryd.prog 97 #[u, v] w (SomeC w) := by
  have HD := Lib.hid (diff_rep (.bool b) (.iInt m) u v w hu hv)
  obtain rfl : u = _ := hu
  obtain rfl : v = _ := hv
  go_enter Tryd.func97, Tryd.ntmps97
  go_wp2_with (go_at_call 124; refine HD.out.mono ?_; rintro e w1 ⟨rfl, rfl⟩)
  all_goals
    go_ret
    exact ⟨_, rfl, Below.refl _ _⟩

set_option maxRecDepth 100000 in
set_option maxHeartbeats 1000000 in
theorem cs_bool_iRune (b : Bool) (m : Int) (u v : Value) (w : World) (hu : Rep w (.bool b) u) (hv : Rep w (.iRune m) v) : Calls Tryd.prog 97 #[u, v] w (SomeC w) := by
  have HD := Lib.hid (diff_rep (.bool b) (.iRune m) u v w hu hv)
  obtain rfl : u = _ := hu
  obtain rfl : v = _ := hv
  go_enter Tryd.func97, Tryd.ntmps97
  go_wp2_with (go_at_call 124; refine HD.out.mono ?_; rintro e w1 ⟨rfl, rfl⟩)
  all_goals
    go_ret
    exact ⟨_, rfl, Below.refl _ _⟩

set_option maxRecDepth 100000 in
set_option maxHeartbeats 1000000 in
theorem cs_bool_iUint (b : Bool) (m : Int) (u v : Value) (w : World) (hu : Rep w (.bool b) u) (hv : Rep w (.iUint m) v) : Calls Tryd.prog 97 #[u, v] w (SomeC w) := by
  have HD := Lib.hid (diff_rep (.bool b) (.iUint m) u v w hu hv)
  obtain rfl : u = _ := hu
  obtain rfl : v = _ := hv
  go_enter Tryd.func97, Tryd.ntmps97
  go_wp2_with (go_at_call 124; refine HD.out.mono ?_; rintro e w1 ⟨rfl, rfl⟩)
  all_goals
    go_ret
    exact ⟨_, rfl, Below.refl _ _⟩

set_option maxRecDepth 100000 in
set_option maxHeartbeats 1000000 in
theorem cs_bool_iFloat (b : Bool) (m : Nat) (u v : Value) (w : World) (hu : Rep w (.bool b) u) (hv : Rep w (.iFloat m) v) : Calls Tryd.prog 97 #[u, v] w (SomeC w) := by
  have HD := Lib.hid (diff_rep (.bool b) (.iFloat m) u v w hu hv)
  obtain rfl : u = _ := hu
  obtain rfl : v = _ := hv
  go_enter Tryd.func97, Tryd.ntmps97
  go_wp2_with (go_at_call 124; refine HD.out.mono ?_; rintro e w1 ⟨rfl, rfl⟩)
  all_goals
    go_ret
    exact ⟨_, rfl, Below.refl _ _⟩

set_option maxRecDepth 100000 in
set_option maxHeartbeats 1000000 in
theorem cs_str_iInt (b : ByteArray) (m : Int) (u v : Value) (w : World) (hu : Rep w (.str b) u) (hv : Rep w (.iInt m) v) : Calls Tryd.prog 97 #[u, v] w (SomeC w) := by
  have HD := Lib.hid (diff_rep (.str b) (.iInt m) u v w hu hv)
  obtain rfl : u = _ := hu
  obtain rfl : v = _ := hv
  go_enter Tryd.func97, Tryd.ntmps97
  go_wp2_with (go_at_call 124; refine HD.out.mono ?_; rintro e w1 ⟨rfl, rfl⟩)
  all_goals
    go_ret
    exact ⟨_, rfl, Below.refl _ _⟩

set_option maxRecDepth 100000 in
set_option maxHeartbeats 1000000 in
theorem cs_str_iRune (b : ByteArray) (m : Int) (u v : Value) (w : World) (hu : Rep w (.str b) u) (hv : Rep w (.iRune m) v) : Calls Tryd.prog 97 #[u, v] w (SomeC w) := by
  have HD := Lib.hid (diff_rep (.str b) (.iRune m) u v w hu hv)
  obtain rfl : u = _ := hu
  obtain rfl : v = _ := hv
  go_enter Tryd.func97, Tryd.ntmps97
  go_wp2_with (go_at_call 124; refine HD.out.mono ?_; rintro e w1 ⟨rfl, rfl⟩)
  all_goals
    go_ret
    exact ⟨_, rfl, Below.refl _ _⟩

set_option maxRecDepth 100000 in
set_option maxHeartbeats 1000000 in
theorem cs_str_iUint (b : ByteArray) (m : Int) (u v : Value) (w : World) (hu : Rep w (.str b) u) (hv : Rep w (.iUint m) v) : Calls Tryd.prog 97 #[u, v] w (SomeC w) := by
  have HD := Lib.hid (diff_rep (.str b) (.iUint m) u v w hu hv)
  obtain rfl : u = _ := hu
  obtain rfl : v = _ := hv
  go_enter Tryd.func97, Tryd.ntmps97
  go_wp2_with (go_at_call 124; refine HD.out.mono ?_; rintro e w1 ⟨rfl, rfl⟩)
  all_goals
    go_ret
    exact ⟨_, rfl, Below.refl _ _⟩

set_option maxRecDepth 100000 in
set_option maxHeartbeats 1000000 in
theorem cs_str_iFloat (b : ByteArray) (m : Nat) (u v : Value) (w : World) (hu : Rep w (.str b) u) (hv : Rep w (.iFloat m) v) : Calls Tryd.prog 97 #[u, v] w (SomeC w) := by
  have HD := Lib.hid (diff_rep (.str b) (.iFloat m) u v w hu hv)
  obtain rfl : u = _ := hu
  obtain rfl : v = _ := hv
  go_enter Tryd.func97, Tryd.ntmps97
  go_wp2_with (go_at_call 124; refine HD.out.mono ?_; rintro e w1 ⟨rfl, rfl⟩)
  all_goals
    go_ret
    exact ⟨_, rfl, Below.refl _ _⟩

set_option maxRecDepth 100000 in
set_option maxHeartbeats 1000000 in
theorem cs_f64_iInt (b : Nat) (m : Int) (u v : Value) (w : World) (hu : Rep w (.f64 b) u) (hv : Rep w (.iInt m) v) : Calls Tryd.prog 97 #[u, v] w (SomeC w) := by
  have HD := Lib.hid (diff_rep (.f64 b) (.iInt m) u v w hu hv)
  obtain rfl : u = _ := hu
  obtain rfl : v = _ := hv
  go_enter Tryd.func97, Tryd.ntmps97
  go_wp2_with (go_at_call 124; refine HD.out.mono ?_; rintro e w1 ⟨rfl, rfl⟩)
  all_goals
    go_ret
    exact ⟨_, rfl, Below.refl _ _⟩

set_option maxRecDepth 100000 in
set_option maxHeartbeats 1000000 in
theorem cs_f64_iRune (b : Nat) (m : Int) (u v : Value) (w : World) (hu : Rep w (.f64 b) u) (hv : Rep w (.iRune m) v) : Calls Tryd.prog 97 #[u, v] w (SomeC w) := by
  have HD := Lib.hid (diff_rep (.f64 b) (.iRune m) u v w hu hv)
  obtain rfl : u = _ := hu
  obtain rfl : v = _ := hv
  go_enter Tryd.func97, Tryd.ntmps97
  go_wp2_with (go_at_call 124; refine HD.out.mono ?_; rintro e w1 ⟨rfl, rfl⟩)
  all_goals
    go_ret
    exact ⟨_, rfl, Below.refl _ _⟩

set_option maxRecDepth 100000 in
set_option maxHeartbeats 1000000 in
theorem cs_f64_iUint (b : Nat) (m : Int) (u v : Value) (w : World) (hu : Rep w (.f64 b) u) (hv : Rep w (.iUint m) v) : Calls Tryd.prog 97 #[u, v] w (SomeC w) := by
  have HD := Lib.hid (diff_rep (.f64 b) (.iUint m) u v w hu hv)
  obtain rfl : u = _ := hu
  obtain rfl : v = _ := hv
  go_enter Tryd.func97, Tryd.ntmps97
  go_wp2_with (go_at_call 124; refine HD.out.mono ?_; rintro e w1 ⟨rfl, rfl⟩)
  all_goals
    go_ret
    exact ⟨_, rfl, Below.refl _ _⟩

set_option maxRecDepth 100000 in
set_option maxHeartbeats 1000000 in
theorem cs_f64_iFloat (b : Nat) (m : Nat) (u v : Value) (w : World) (hu : Rep w (.f64 b) u) (hv : Rep w (.iFloat m) v) : Calls Tryd.prog 97 #[u, v] w (SomeC w) := by
  have HD := Lib.hid (diff_rep (.f64 b) (.iFloat m) u v w hu hv)
  obtain rfl : u = _ := hu
  obtain rfl : v = _ := hv
  go_enter Tryd.func97, Tryd.ntmps97
  go_wp2_with (go_at_call 124; refine HD.out.mono ?_; rintro e w1 ⟨rfl, rfl⟩)
  all_goals
    go_ret
    exact ⟨_, rfl, Below.refl _ _⟩

set_option maxRecDepth 100000 in
set_option maxHeartbeats 1000000 in
theorem cs_blob_iInt (b : List UInt8) (m : Int) (u v : Value) (w : World) (hu : Rep w (.blob b) u) (hv : Rep w (.iInt m) v) : Calls Tryd.prog 97 #[u, v] w (SomeC w) := by
  have HD := Lib.hid (diff_rep (.blob b) (.iInt m) u v w hu hv)
  obtain ⟨a, cap, rfl, _⟩ := hu
  obtain rfl : v = _ := hv
  go_enter Tryd.func97, Tryd.ntmps97
  go_wp2_with (go_at_call 124; refine HD.out.mono ?_; rintro e w1 ⟨rfl, rfl⟩)
  all_goals
    go_ret
    exact ⟨_, rfl, Below.refl _ _⟩

set_option maxRecDepth 100000 in
set_option maxHeartbeats 1000000 in
theorem cs_blob_iRune (b : List UInt8) (m : Int) (u v : Value) (w : World) (hu : Rep w (.blob b) u) (hv : Rep w (.iRune m) v) : Calls Tryd.prog 97 #[u, v] w (SomeC w) := by
  have HD := Lib.hid (diff_rep (.blob b) (.iRune m) u v w hu hv)
  obtain ⟨a, cap, rfl, _⟩ := hu
  obtain rfl : v = _ := hv
  go_enter Tryd.func97, Tryd.ntmps97
  go_wp2_with (go_at_call 124; refine HD.out.mono ?_; rintro e w1 ⟨rfl, rfl⟩)
  all_goals
    go_ret
    exact ⟨_, rfl, Below.refl _ _⟩

set_option maxRecDepth 100000 in
set_option maxHeartbeats 1000000 in
theorem cs_blob_iUint (b : List UInt8) (m : Int) (u v : Value) (w : World) (hu : Rep w (.blob b) u) (hv : Rep w (.iUint m) v) : Calls Tryd.prog 97 #[u, v] w (SomeC w) := by
  have HD := Lib.hid (diff_rep (.blob b) (.iUint m) u v w hu hv)
  obtain ⟨a, cap, rfl, _⟩ := hu
  obtain rfl : v = _ := hv
  go_enter Tryd.func97, Tryd.ntmps97
  go_wp2_with (go_at_call 124; refine HD.out.mono ?_; rintro e w1 ⟨rfl, rfl⟩)
  all_goals
    go_ret
    exact ⟨_, rfl, Below.refl _ _⟩

set_option maxRecDepth 100000 in
set_option maxHeartbeats 1000000 in
theorem cs_blob_iFloat (b : List UInt8) (m : Nat) (u v : Value) (w : World) (hu : Rep w (.blob b) u) (hv : Rep w (.iFloat m) v) : Calls Tryd.prog 97 #[u, v] w (SomeC w) := by
  have HD := Lib.hid (diff_rep (.blob b) (.iFloat m) u v w hu hv)
  obtain ⟨a, cap, rfl, _⟩ := hu
  obtain rfl : v = _ := hv
  go_enter Tryd.func97, Tryd.ntmps97
  go_wp2_with (go_at_call 124; refine HD.out.mono ?_; rintro e w1 ⟨rfl, rfl⟩)
  all_goals
    go_ret
    exact ⟨_, rfl, Below.refl _ _⟩

end Go.Proofs.YtffgkocokkhahaaDoor
