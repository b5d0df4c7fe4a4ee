/-
  ql.collate1 of two values of one type. PRINTED BY wip/tpl/gen_col.py.
-/
import Derived.Test.YtffgkocokkhahaaDoorTp02
import Derived.Test.YtffgkocokkhahaaDoorTp06
import Derived.Deep.RegionWith

/- ql.collate1 of two values of one type. PRINTED BY wip/tpl/gen_col.py. -/
namespace Go.Proofs.YtffgkocokkhahaaDoor
open Go.RowKit

set_option maxRecDepth 100000 in
set_option maxHeartbeats 1000000 in
theorem col_i8 (n m : Int) (w : World) :
    Calls Tryd.prog 97 #[.iface 199 (.int .i8 n), .iface 199 (.int .i8 m)] w fun e w' => e = .returned (.int .i64 (three (decide (n < m)) (n == m))) ∧ w = w' := by
  by_cases h1 : n < m
  · rw [show three (decide (n < m)) (n == m) = -1 from by simp [three, h1]]
    go_enter Tryd.func97, Tryd.ntmps97
    go_wp2
    go_ret
    exact ⟨rfl, rfl⟩
  · by_cases h2 : n = m
    · rw [show three (decide (n < m)) (n == m) = 0 from by simp [three, h2]]
      subst h2
      go_enter Tryd.func97, Tryd.ntmps97
      go_wp2
      go_ret
      exact ⟨rfl, rfl⟩
    · rw [show three (decide (n < m)) (n == m) = 1 from by simp [three, h1, h2]]
      go_enter Tryd.func97, Tryd.ntmps97
      go_wp2
      go_ret
      exact ⟨rfl, rfl⟩

set_option maxRecDepth 100000 in
set_option maxHeartbeats 1000000 in
theorem col_i16 (n m : Int) (w : World) :
    Calls Tryd.prog 97 #[.iface 200 (.int .i16 n), .iface 200 (.int .i16 m)] w fun e w' => e = .returned (.int .i64 (three (decide (n < m)) (n == m))) ∧ w = w' := by
  by_cases h1 : n < m
  · rw [show three (decide (n < m)) (n == m) = -1 from by simp [three, h1]]
    go_enter Tryd.func97, Tryd.ntmps97
    go_wp2
    go_ret
    exact ⟨rfl, rfl⟩
  · by_cases h2 : n = m
    · rw [show three (decide (n < m)) (n == m) = 0 from by simp [three, h2]]
      subst h2
      go_enter Tryd.func97, Tryd.ntmps97
      go_wp2
      go_ret
      exact ⟨rfl, rfl⟩
    · rw [show three (decide (n < m)) (n == m) = 1 from by simp [three, h1, h2]]
      go_enter Tryd.func97, Tryd.ntmps97
      go_wp2
      go_ret
      exact ⟨rfl, rfl⟩

set_option maxRecDepth 100000 in
set_option maxHeartbeats 1000000 in
theorem col_i32 (n m : Int) (w : World) :
    Calls Tryd.prog 97 #[.iface 21 (.int .i32 n), .iface 21 (.int .i32 m)] w fun e w' => e = .returned (.int .i64 (three (decide (n < m)) (n == m))) ∧ w = w' := by
  by_cases h1 : n < m
  · rw [show three (decide (n < m)) (n == m) = -1 from by simp [three, h1]]
    go_enter Tryd.func97, Tryd.ntmps97
    go_wp2
    go_ret
    exact ⟨rfl, rfl⟩
  · by_cases h2 : n = m
    · rw [show three (decide (n < m)) (n == m) = 0 from by simp [three, h2]]
      subst h2
      go_enter Tryd.func97, Tryd.ntmps97
      go_wp2
      go_ret
      exact ⟨rfl, rfl⟩
    · rw [show three (decide (n < m)) (n == m) = 1 from by simp [three, h1, h2]]
      go_enter Tryd.func97, Tryd.ntmps97
      go_wp2
      go_ret
      exact ⟨rfl, rfl⟩

set_option maxRecDepth 100000 in
set_option maxHeartbeats 1000000 in
theorem col_i64 (n m : Int) (w : World) :
    Calls Tryd.prog 97 #[.iface 2 (.int .i64 n), .iface 2 (.int .i64 m)] w fun e w' => e = .returned (.int .i64 (three (decide (n < m)) (n == m))) ∧ w = w' := by
  by_cases h1 : n < m
  · rw [show three (decide (n < m)) (n == m) = -1 from by simp [three, h1]]
    go_enter Tryd.func97, Tryd.ntmps97
    go_wp2
    go_ret
    exact ⟨rfl, rfl⟩
  · by_cases h2 : n = m
    · rw [show three (decide (n < m)) (n == m) = 0 from by simp [three, h2]]
      subst h2
      go_enter Tryd.func97, Tryd.ntmps97
      go_wp2
      go_ret
      exact ⟨rfl, rfl⟩
    · rw [show three (decide (n < m)) (n == m) = 1 from by simp [three, h1, h2]]
      go_enter Tryd.func97, Tryd.ntmps97
      go_wp2
      go_ret
      exact ⟨rfl, rfl⟩

set_option maxRecDepth 100000 in
set_option maxHeartbeats 1000000 in
theorem col_u8 (n m : Int) (w : World) :
    Calls Tryd.prog 97 #[.iface 5 (.int .u8 n), .iface 5 (.int .u8 m)] w fun e w' => e = .returned (.int .i64 (three (decide (n < m)) (n == m))) ∧ w = w' := by
  by_cases h1 : n < m
  · rw [show three (decide (n < m)) (n == m) = -1 from by simp [three, h1]]
    go_enter Tryd.func97, Tryd.ntmps97
    go_wp2
    go_ret
    exact ⟨rfl, rfl⟩
  · by_cases h2 : n = m
    · rw [show three (decide (n < m)) (n == m) = 0 from by simp [three, h2]]
      subst h2
      go_enter Tryd.func97, Tryd.ntmps97
      go_wp2
      go_ret
      exact ⟨rfl, rfl⟩
    · rw [show three (decide (n < m)) (n == m) = 1 from by simp [three, h1, h2]]
      go_enter Tryd.func97, Tryd.ntmps97
      go_wp2
      go_ret
      exact ⟨rfl, rfl⟩

set_option maxRecDepth 100000 in
set_option maxHeartbeats 1000000 in
theorem col_u16 (n m : Int) (w : World) :
    Calls Tryd.prog 97 #[.iface 201 (.int .u16 n), .iface 201 (.int .u16 m)] w fun e w' => e = .returned (.int .i64 (three (decide (n < m)) (n == m))) ∧ w = w' := by
  by_cases h1 : n < m
  · rw [show three (decide (n < m)) (n == m) = -1 from by simp [three, h1]]
    go_enter Tryd.func97, Tryd.ntmps97
    go_wp2
    go_ret
    exact ⟨rfl, rfl⟩
  · by_cases h2 : n = m
    · rw [show three (decide (n < m)) (n == m) = 0 from by simp [three, h2]]
      subst h2
      go_enter Tryd.func97, Tryd.ntmps97
      go_wp2
      go_ret
      exact ⟨rfl, rfl⟩
    · rw [show three (decide (n < m)) (n == m) = 1 from by simp [three, h1, h2]]
      go_enter Tryd.func97, Tryd.ntmps97
      go_wp2
      go_ret
      exact ⟨rfl, rfl⟩

set_option maxRecDepth 100000 in
set_option maxHeartbeats 1000000 in
theorem col_u32 (n m : Int) (w : World) :
    Calls Tryd.prog 97 #[.iface 156 (.int .u32 n), .iface 156 (.int .u32 m)] w fun e w' => e = .returned (.int .i64 (three (decide (n < m)) (n == m))) ∧ w = w' := by
  by_cases h1 : n < m
  · rw [show three (decide (n < m)) (n == m) = -1 from by simp [three, h1]]
    go_enter Tryd.func97, Tryd.ntmps97
    go_wp2
    go_ret
    exact ⟨rfl, rfl⟩
  · by_cases h2 : n = m
    · rw [show three (decide (n < m)) (n == m) = 0 from by simp [three, h2]]
      subst h2
      go_enter Tryd.func97, Tryd.ntmps97
      go_wp2
      go_ret
      exact ⟨rfl, rfl⟩
    · rw [show three (decide (n < m)) (n == m) = 1 from by simp [three, h1, h2]]
      go_enter Tryd.func97, Tryd.ntmps97
      go_wp2
      go_ret
      exact ⟨rfl, rfl⟩

set_option maxRecDepth 100000 in
set_option maxHeartbeats 1000000 in
theorem col_u64 (n m : Int) (w : World) :
    Calls Tryd.prog 97 #[.iface 55 (.int .u64 n), .iface 55 (.int .u64 m)] w fun e w' => e = .returned (.int .i64 (three (decide (n < m)) (n == m))) ∧ w = w' := by
  by_cases h1 : n < m
  · rw [show three (decide (n < m)) (n == m) = -1 from by simp [three, h1]]
    go_enter Tryd.func97, Tryd.ntmps97
    go_wp2
    go_ret
    exact ⟨rfl, rfl⟩
  · by_cases h2 : n = m
    · rw [show three (decide (n < m)) (n == m) = 0 from by simp [three, h2]]
      subst h2
      go_enter Tryd.func97, Tryd.ntmps97
      go_wp2
      go_ret
      exact ⟨rfl, rfl⟩
    · rw [show three (decide (n < m)) (n == m) = 1 from by simp [three, h1, h2]]
      go_enter Tryd.func97, Tryd.ntmps97
      go_wp2
      go_ret
      exact ⟨rfl, rfl⟩

set_option maxRecDepth 100000 in
set_option maxHeartbeats 1000000 in
theorem col_f32 (x y : Nat) (w : World) :
    Calls Tryd.prog 97 #[.iface 121 (.float .f32 x), .iface 121 (.float .f32 y)] w fun e w' => e = .returned (.int .i64 (three (Ieee.single.order x y == some .lt) (Ieee.single.order x y == some .eq))) ∧ w = w' := by
  rw [show Ieee.single.order x y = FloatKind.f32.format.order x y from rfl]
  cases h1 : (FloatKind.f32.format.order x y == some .lt) with
  | true =>
    rw [show three true (FloatKind.f32.format.order x y == some .eq) = -1 from rfl]
    go_enter Tryd.func97, Tryd.ntmps97
    go_wp2
    go_ret
    exact ⟨rfl, rfl⟩
  | false =>
    cases h2 : (FloatKind.f32.format.order x y == some .eq) with
    | true =>
      rw [show three false true = 0 from rfl]
      go_enter Tryd.func97, Tryd.ntmps97
      go_wp2
      go_ret
      exact ⟨rfl, rfl⟩
    | false =>
      rw [show three false false = 1 from rfl]
      go_enter Tryd.func97, Tryd.ntmps97
      go_wp2
      go_ret
      exact ⟨rfl, rfl⟩

set_option maxRecDepth 100000 in
set_option maxHeartbeats 1000000 in
theorem col_f64 (x y : Nat) (w : World) :
    Calls Tryd.prog 97 #[.iface 56 (.float .f64 x), .iface 56 (.float .f64 y)] w fun e w' => e = .returned (.int .i64 (three (Ieee.double.order x y == some .lt) (Ieee.double.order x y == some .eq))) ∧ w = w' := by
  rw [show Ieee.double.order x y = FloatKind.f64.format.order x y from rfl]
  cases h1 : (FloatKind.f64.format.order x y == some .lt) with
  | true =>
    rw [show three true (FloatKind.f64.format.order x y == some .eq) = -1 from rfl]
    go_enter Tryd.func97, Tryd.ntmps97
    go_wp2
    go_ret
    exact ⟨rfl, rfl⟩
  | false =>
    cases h2 : (FloatKind.f64.format.order x y == some .eq) with
    | true =>
      rw [show three false true = 0 from rfl]
      go_enter Tryd.func97, Tryd.ntmps97
      go_wp2
      go_ret
      exact ⟨rfl, rfl⟩
    | false =>
      rw [show three false false = 1 from rfl]
      go_enter Tryd.func97, Tryd.ntmps97
      go_wp2
      go_ret
      exact ⟨rfl, rfl⟩

set_option maxRecDepth 100000 in
set_option maxHeartbeats 1000000 in
theorem col_bool (x y : Bool) (w : World) :
    Calls Tryd.prog 97 #[.iface 4 (.bool x), .iface 4 (.bool y)] w fun e w' => e = .returned (.int .i64 (three (!x && y) (x == y))) ∧ w = w' := by
  cases x <;> cases y <;>
  · go_enter Tryd.func97, Tryd.ntmps97
    go_wp2
    go_ret
    exact ⟨rfl, rfl⟩

set_option maxRecDepth 100000 in
set_option maxHeartbeats 1000000 in
theorem col_str (x y : ByteArray) (w : World) :
    Calls Tryd.prog 97 #[.iface 9 (.string x), .iface 9 (.string y)] w fun e w' => e = .returned (.int .i64 (three (Op.bytesLess x.toList y.toList) (x.toList == y.toList))) ∧ w = w' := by
  cases h1 : (Op.bytesLess x.toList y.toList) with
  | true =>
    rw [show three true (x.toList == y.toList) = -1 from rfl]
    go_enter Tryd.func97, Tryd.ntmps97
    go_wp2
    go_ret
    exact ⟨rfl, rfl⟩
  | false =>
    cases h2 : (x.toList == y.toList) with
    | true =>
      rw [show three false true = 0 from rfl]
      go_enter Tryd.func97, Tryd.ntmps97
      go_wp2
      go_ret
      exact ⟨rfl, rfl⟩
    | false =>
      rw [show three false false = 1 from rfl]
      go_enter Tryd.func97, Tryd.ntmps97
      go_wp2
      go_ret
      exact ⟨rfl, rfl⟩

end Go.Proofs.YtffgkocokkhahaaDoor
