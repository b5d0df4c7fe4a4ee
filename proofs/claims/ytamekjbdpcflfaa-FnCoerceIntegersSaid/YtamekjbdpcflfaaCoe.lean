/-
  ql.zzType and zzSameType of any value. PRINTED BY wip/tpl/gen_coe.py.
-/
import Derived.Test.YtamekjbdpcflfaaCo1
import Derived.Test.YtamekjbdpcflfaaOrd
namespace Go.Proofs.Ytamekjbdpcflfaa
open Go.RowKit

def SV.tn : SV → Int
  | .null => 0 | .bool _ => 1 | .iFloat _ => 2 | .f32 _ => 3 | .f64 _ => 4 | .iInt _ => 5 | .iRune _ => 6 | .iUint _ => 7
  | .int .i8 _ => 8 | .int .i16 _ => 9 | .int .i32 _ => 10 | .int .i64 _ => 11 | .int .u8 _ => 12 | .int .u16 _ => 13 | .int .u32 _ => 14 | .int .u64 _ => 15
  | .str _ => 16 | .blob _ => 17

set_option maxRecDepth 100000 in
set_option maxHeartbeats 1000000 in
theorem typeN_any (x : SV) (v : Value) (w : World) (h : Rep w x v) :
    Calls Try.prog 61 #[v] w fun e w' => e = .returned (.int .i64 x.tn) ∧ w = w' := by
  cases x with
  | blob l =>
    obtain ⟨a, cap, rfl, h1, h2⟩ := h
    clear h1 h2
    go_enter Try.func61, Try.ntmps61
    go_wp2
    go_ret
    exact ⟨rfl, rfl⟩
  | int q n =>
    obtain rfl := h
    cases q <;>
    · simp only [kindT]
      go_enter Try.func61, Try.ntmps61
      go_wp2
      go_ret
      exact ⟨rfl, rfl⟩
  | _ =>
    obtain rfl := h
    go_enter Try.func61, Try.ntmps61
    go_wp2
    go_ret
    exact ⟨rfl, rfl⟩

set_option maxRecDepth 100000 in
set_option maxHeartbeats 1000000 in
theorem sameT_any (x y : SV) (u v : Value) (w : World) (hu : Rep w x u) (hv : Rep w y v) :
    Calls Try.prog 59 #[u, v] w fun e w' => e = .returned (.bool (x.tn == y.tn)) ∧ w = w' := by
  have h1 := Lib.hid hu
  have h2 := Lib.hid hv
  clear hu hv
  go_enter Try.func59, Try.ntmps59
  go_wp2_with (first | (go_at_call_of 61 u; refine (typeN_any x u _ h1.out).mono ?_; rintro e w' ⟨rfl, rfl⟩) | (go_at_call_of 61 v; refine (typeN_any y v _ h2.out).mono ?_; rintro e w' ⟨rfl, rfl⟩))
  go_ret
  exact ⟨rfl, rfl⟩

/-- A value's outer form. -/
theorem shape_conc {w : World} {x : SV} {u : Value} (h : Rep w x u) (hx : x.isLit = false) : u = .nilIface ∨ ∃ U z, u = .iface U z ∧ U ≠ 73 ∧ U ≠ 74 ∧ U ≠ 75 ∧ U ≠ 76 := by
  cases x with
  | null => exact .inl h
  | blob l => obtain ⟨a, cap, rfl, _⟩ := h; exact .inr ⟨_, _, rfl, by decide, by decide, by decide, by decide⟩
  | int q n => obtain rfl : u = _ := h; exact .inr ⟨_, _, rfl, by cases q <;> decide, by cases q <;> decide, by cases q <;> decide, by cases q <;> decide⟩
  | iInt n => exact absurd hx (by simp [SV.isLit])
  | iRune n => exact absurd hx (by simp [SV.isLit])
  | iUint n => exact absurd hx (by simp [SV.isLit])
  | iFloat n => exact absurd hx (by simp [SV.isLit])
  | _ => exact .inr ⟨_, _, h, by decide, by decide, by decide, by decide⟩

theorem shape_lit {w : World} {x : SV} {u : Value} (h : Rep w x u) (hx : x.isLit = true) : ∃ U z, u = .iface U z ∧ (U = 73 ∨ U = 74 ∨ U = 75 ∨ U = 76) := by
  cases x with
  | iInt n => exact ⟨_, _, h, by simp⟩
  | iRune n => exact ⟨_, _, h, by simp⟩
  | iUint n => exact ⟨_, _, h, by simp⟩
  | iFloat n => exact ⟨_, _, h, by simp⟩
  | _ => exact absurd hx (by simp [SV.isLit])

end Go.Proofs.Ytamekjbdpcflfaa
