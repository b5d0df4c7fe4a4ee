/-
  The reference's small functions of a kind, of NULL, of no numbers, of an order by two questions. PRINTED BY wip/tpl/gen_sc.py.
-/
import Derived.Test.YtiijcmdfbgoafaaSl7
namespace Go.Proofs.Ytiijcmdfbgoafaa
open Go.RowKit

def Kd.vSgn : Kd → Bool
  | .int q => q.signed
  | _ => false
def Kd.vUns : Kd → Bool
  | .int q => !q.signed
  | _ => false
def Kd.vFlt : Kd → Bool
  | .f32 | .f64 => true
  | _ => false
def Kd.vOrd : Kd → Bool
  | .int _ | .f32 | .f64 | .str | .blob => true
  | _ => false

set_option maxHeartbeats 1000000 in
theorem vSgn_any (k : ByteArray) (w : World) :
    Calls Try.prog 53 #[.string k] w fun e w' => e = .returned (.bool (Kd.of k.toList).vSgn) ∧ w = w' := by
  cases hk : Kd.of k.toList
  case other =>
    obtain ⟨h1, h2, h3, h4, h5, h6, h7, h8, h9, h10, h11, h12, h13, h14, h15, h16, h17, h18⟩ := Kd.of_other _ hk
    clear hk
    (go_enter Try.func53, Try.ntmps53; go_wp2; go_ret; exact ⟨rfl, rfl⟩)
  case int q =>
    have hl := Kd.of_lit _ hk (by simp)
    clear hk
    cases q <;> (simp only [Kd.lit] at hl; (go_enter Try.func53, Try.ntmps53; go_wp2; go_ret; exact ⟨rfl, rfl⟩))
  all_goals
    have hl := Kd.of_lit _ hk (by simp)
    clear hk
    simp only [Kd.lit] at hl
    (go_enter Try.func53, Try.ntmps53; go_wp2; go_ret; exact ⟨rfl, rfl⟩)

set_option maxHeartbeats 1000000 in
theorem vUns_any (k : ByteArray) (w : World) :
    Calls Try.prog 55 #[.string k] w fun e w' => e = .returned (.bool (Kd.of k.toList).vUns) ∧ w = w' := by
  cases hk : Kd.of k.toList
  case other =>
    obtain ⟨h1, h2, h3, h4, h5, h6, h7, h8, h9, h10, h11, h12, h13, h14, h15, h16, h17, h18⟩ := Kd.of_other _ hk
    clear hk
    (go_enter Try.func55, Try.ntmps55; go_wp2; go_ret; exact ⟨rfl, rfl⟩)
  case int q =>
    have hl := Kd.of_lit _ hk (by simp)
    clear hk
    cases q <;> (simp only [Kd.lit] at hl; (go_enter Try.func55, Try.ntmps55; go_wp2; go_ret; exact ⟨rfl, rfl⟩))
  all_goals
    have hl := Kd.of_lit _ hk (by simp)
    clear hk
    simp only [Kd.lit] at hl
    (go_enter Try.func55, Try.ntmps55; go_wp2; go_ret; exact ⟨rfl, rfl⟩)

set_option maxHeartbeats 1000000 in
theorem vOrd_any (k : ByteArray) (w : World) :
    Calls Try.prog 42 #[.string k] w fun e w' => e = .returned (.bool (Kd.of k.toList).vOrd) ∧ w = w' := by
  cases hk : Kd.of k.toList
  case other =>
    obtain ⟨h1, h2, h3, h4, h5, h6, h7, h8, h9, h10, h11, h12, h13, h14, h15, h16, h17, h18⟩ := Kd.of_other _ hk
    clear hk
    (go_enter Try.func42, Try.ntmps42; go_wp2; go_ret; exact ⟨rfl, rfl⟩)
  case int q =>
    have hl := Kd.of_lit _ hk (by simp)
    clear hk
    cases q <;> (simp only [Kd.lit] at hl; (go_enter Try.func42, Try.ntmps42; go_wp2; go_ret; exact ⟨rfl, rfl⟩))
  all_goals
    have hl := Kd.of_lit _ hk (by simp)
    clear hk
    simp only [Kd.lit] at hl
    (go_enter Try.func42, Try.ntmps42; go_wp2; go_ret; exact ⟨rfl, rfl⟩)

set_option maxHeartbeats 1000000 in
theorem vFlt_any (k : ByteArray) (w : World) :
    Calls Try.prog 52 #[.string k] w fun e w' => e = .returned (.bool (Kd.of k.toList).vFlt) ∧ w = w' := by
  cases hk : Kd.of k.toList
  case other =>
    obtain ⟨h1, h2, h3, h4, h5, h6, h7, h8, h9, h10, h11, h12, h13, h14, h15, h16, h17, h18⟩ := Kd.of_other _ hk
    clear hk
    (go_enter Try.func52, Try.ntmps52; go_wp2; go_ret; exact ⟨rfl, rfl⟩)
  case int q =>
    have hl := Kd.of_lit _ hk (by simp)
    clear hk
    cases q <;> (simp only [Kd.lit] at hl; (go_enter Try.func52, Try.ntmps52; go_wp2; go_ret; exact ⟨rfl, rfl⟩))
  all_goals
    have hl := Kd.of_lit _ hk (by simp)
    clear hk
    simp only [Kd.lit] at hl
    (go_enter Try.func52, Try.ntmps52; go_wp2; go_ret; exact ⟨rfl, rfl⟩)

def ord2 (l g : Bool) : Int := if l = true then -1 else if g = true then 1 else 0

theorem vOrder_any (l g : Bool) (w : World) : Calls Try.prog 54 #[.bool l, .bool g] w fun e w' => e = .returned (.int .i64 (ord2 l g)) ∧ w = w' := by
  cases l <;> cases g <;> (go_enter Try.func54, Try.ntmps54; go_wp2; go_ret; exact ⟨rfl, rfl⟩)

theorem vNull_any (k : ByteArray) (n u : Int) (f : Nat) (s : ByteArray) (w : World) : Calls Try.prog 41 #[.agg #[.string k, .int .i64 n, .int .u64 u, .float .f64 f, .string s]] w fun e w' => e = .returned (.bool k.toList.isEmpty) ∧ Below w.heap.size w w' := by
  go_enter Try.func41, Try.ntmps41
  go_wp2
  go_ret
  exact ⟨rfl, (Below.refl _ _).alloc (Nat.le_refl _) _⟩

theorem vNaN_any (k : ByteArray) (n u : Int) (f : Nat) (s : ByteArray) (w : World) : Calls Try.prog 43 #[.agg #[.string k, .int .i64 n, .int .u64 u, .float .f64 f, .string s]] w fun e w' => e = .returned (.bool (!numB f)) ∧ Below w.heap.size w w' := by
  go_enter Try.func43, Try.ntmps43
  go_wp2
  first
    | (go_ret; exact ⟨rfl, (Below.refl _ _).alloc (Nat.le_refl _) _⟩)
    | (go_quiet (fail); go_wp2; go_ret; exact ⟨rfl, below_drewN ((Below.refl _ _).alloc (Nat.le_refl _) _) _⟩)

end Go.Proofs.Ytiijcmdfbgoafaa
