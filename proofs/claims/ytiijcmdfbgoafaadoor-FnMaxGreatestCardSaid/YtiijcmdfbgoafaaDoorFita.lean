/-
  ql.ZZType at the thirteen types, laws.kinds, impl.Fits. PRINTED BY wip/tpl/gen_fit.py.
-/
import Derived.Test.YtiijcmdfbgoafaaDoorOut2a
namespace Go.Proofs.YtiijcmdfbgoafaaDoor
open Go.RowKit

/-- The number of a type of integers in the program. -/
def ikTy : IntKind → Int
  | .i8 => 105
  | .i16 => 106
  | .i32 => 107
  | .i64 => 108
  | .u8 => 117
  | .u16 => 118
  | .u32 => 119
  | .u64 => 120

theorem q_i8 : IntKind.min .i8 = -128 ∧ IntKind.max .i8 = 127 := by decide
theorem q_i16 : IntKind.min .i16 = -32768 ∧ IntKind.max .i16 = 32767 := by decide
theorem q_i32 : IntKind.min .i32 = -2147483648 ∧ IntKind.max .i32 = 2147483647 := by decide
theorem q_i64 : IntKind.min .i64 = -9223372036854775808 ∧ IntKind.max .i64 = 9223372036854775807 := by decide
theorem q_u8 : IntKind.min .u8 = 0 ∧ IntKind.max .u8 = 255 := by decide
theorem q_u16 : IntKind.min .u16 = 0 ∧ IntKind.max .u16 = 65535 := by decide
theorem q_u32 : IntKind.min .u32 = 0 ∧ IntKind.max .u32 = 4294967295 := by decide
theorem q_u64 : IntKind.min .u64 = 0 ∧ IntKind.max .u64 = 18446744073709551615 := by decide

/-- The number of a type in the program. -/
def Kd.ty : Kd → Int
  | .blob => 66
  | .bool => 98
  | .f32 => 102
  | .f64 => 103
  | .str => 115
  | .int q => ikTy q
  | _ => 0
/-- A column's type. -/
def Kd.col : Kd → Bool
  | .blob | .bool | .f32 | .f64 | .str | .int _ => true
  | _ => false

set_option maxHeartbeats 1000000 in
theorem zzType_any (k : ByteArray) (h : (Kd.of k.toList).col = true) (w : World) :
    Calls Tryd.prog 27 #[.string k] w fun e w' => e = .returned (.int .i64 (Kd.of k.toList).ty) ∧ w = w' := by
  cases hk : Kd.of k.toList
  case int q =>
    have hl := Kd.of_lit _ hk (by simp)
    clear hk h
    cases q <;> (simp only [Kd.lit] at hl; go_enter Tryd.func27, Tryd.ntmps27; go_wp2; go_ret; exact ⟨rfl, rfl⟩)
  case blob =>
    have hl := Kd.of_lit _ hk (by simp)
    clear hk h
    simp only [Kd.lit] at hl
    go_enter Tryd.func27, Tryd.ntmps27
    go_wp2
    go_ret
    exact ⟨rfl, rfl⟩
  case bool =>
    have hl := Kd.of_lit _ hk (by simp)
    clear hk h
    simp only [Kd.lit] at hl
    go_enter Tryd.func27, Tryd.ntmps27
    go_wp2
    go_ret
    exact ⟨rfl, rfl⟩
  case f32 =>
    have hl := Kd.of_lit _ hk (by simp)
    clear hk h
    simp only [Kd.lit] at hl
    go_enter Tryd.func27, Tryd.ntmps27
    go_wp2
    go_ret
    exact ⟨rfl, rfl⟩
  case f64 =>
    have hl := Kd.of_lit _ hk (by simp)
    clear hk h
    simp only [Kd.lit] at hl
    go_enter Tryd.func27, Tryd.ntmps27
    go_wp2
    go_ret
    exact ⟨rfl, rfl⟩
  case str =>
    have hl := Kd.of_lit _ hk (by simp)
    clear hk h
    simp only [Kd.lit] at hl
    go_enter Tryd.func27, Tryd.ntmps27
    go_wp2
    go_ret
    exact ⟨rfl, rfl⟩
  all_goals (rw [hk] at h; cases h)

/-- The names of the types of columns. -/
def kname : Nat → ByteArray
  | 0 => ⟨#[98, 111, 111, 108]⟩
  | 1 => ⟨#[105, 110, 116, 56]⟩
  | 2 => ⟨#[105, 110, 116, 49, 54]⟩
  | 3 => ⟨#[105, 110, 116, 51, 50]⟩
  | 4 => ⟨#[105, 110, 116, 54, 52]⟩
  | 5 => ⟨#[117, 105, 110, 116, 56]⟩
  | 6 => ⟨#[117, 105, 110, 116, 49, 54]⟩
  | 7 => ⟨#[117, 105, 110, 116, 51, 50]⟩
  | 8 => ⟨#[117, 105, 110, 116, 54, 52]⟩
  | 9 => ⟨#[102, 108, 111, 97, 116, 51, 50]⟩
  | 10 => ⟨#[102, 108, 111, 97, 116, 54, 52]⟩
  | 11 => ⟨#[115, 116, 114, 105, 110, 103]⟩
  | 12 => ⟨#[98, 108, 111, 98]⟩
  | _ => ⟨#[]⟩

def KindsPost (w : World) (e : Ending) (w' : World) : Prop :=
  ∃ b, e = .returned (.slice (some ⟨b, 0, none⟩) 13 13) ∧ w.heap.size ≤ b ∧ b < w'.heap.size ∧ Below w.heap.size w w' ∧ ∀ j, j < 13 → w'.cell? ⟨b, j, none⟩ = some (.string (kname j))

set_option maxRecDepth 100000 in
set_option maxHeartbeats 400000 in
theorem kinds_any (w : World) : Calls Tryd.prog 8 #[] w (KindsPost w) := by
  go_enter Tryd.func8, Tryd.ntmps8
  go_wp2
  go_ret
  refine ⟨w.heap.size, rfl, Nat.le_refl _, by simp, (Below.refl _ _).alloc (Nat.le_refl _) _, fun j hj => ?_⟩
  rw [World.cell?_alloc_mark]
  match j, hj with
  | 0, _ => rfl
  | 1, _ => rfl
  | 2, _ => rfl
  | 3, _ => rfl
  | 4, _ => rfl
  | 5, _ => rfl
  | 6, _ => rfl
  | 7, _ => rfl
  | 8, _ => rfl
  | 9, _ => rfl
  | 10, _ => rfl
  | 11, _ => rfl
  | 12, _ => rfl

end Go.Proofs.YtiijcmdfbgoafaaDoor
