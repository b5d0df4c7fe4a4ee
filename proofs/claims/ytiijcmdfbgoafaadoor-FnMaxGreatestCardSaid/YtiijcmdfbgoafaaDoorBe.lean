/-
  laws.beyond of two values none of whose fields is above the other's. PRINTED BY wip/tpl/gen_be.py.
-/
import Derived.Test.YtiijcmdfbgoafaaDoorOx
namespace Go.Proofs.YtiijcmdfbgoafaaDoor
open Go.RowKit

def BePost (c : Int) (w : World) (e : Ending) (w' : World) : Prop := e = .returned (.int .i64 c) ∧ Below w.heap.size w w'

set_option maxRecDepth 100000 in
theorem be_n (k : ByteArray) (n u : Int) (f : Nat) (s : ByteArray) (k' : ByteArray) (n' u' : Int) (f' : Nat) (s' : ByteArray) (w : World) (h1 : n < n') :
    Calls Tryd.prog 39 #[.agg #[.string k, .int .i64 n, .int .u64 u, .float .f64 f, .string s], .agg #[.string k', .int .i64 n', .int .u64 u', .float .f64 f', .string s']] w (BePost (-1) w) := by
  go_enter Tryd.func39, Tryd.ntmps39
  go_wp2
  go_ret
  exact ⟨rfl, by repeat (first | exact Below.refl _ _ | exact below_two _ _ _ | exact (Below.refl _ _).alloc (Nat.le_refl _) _ | refine Below.drew ?_ | refine below_drewN ?_ _)⟩

set_option maxRecDepth 100000 in
theorem be_u (k : ByteArray) (n u : Int) (f : Nat) (s : ByteArray) (k' : ByteArray) (n' u' : Int) (f' : Nat) (s' : ByteArray) (w : World) (h1 : n' ≤ n) (h2 : u < u') :
    Calls Tryd.prog 39 #[.agg #[.string k, .int .i64 n, .int .u64 u, .float .f64 f, .string s], .agg #[.string k', .int .i64 n', .int .u64 u', .float .f64 f', .string s']] w (BePost (-1) w) := by
  go_enter Tryd.func39, Tryd.ntmps39
  go_wp2
  go_ret
  exact ⟨rfl, by repeat (first | exact Below.refl _ _ | exact below_two _ _ _ | exact (Below.refl _ _).alloc (Nat.le_refl _) _ | refine Below.drew ?_ | refine below_drewN ?_ _)⟩

set_option maxRecDepth 100000 in
theorem be_f (k : ByteArray) (n u : Int) (f : Nat) (s : ByteArray) (k' : ByteArray) (n' u' : Int) (f' : Nat) (s' : ByteArray) (w : World) (h1 : n' ≤ n) (h2 : u' ≤ u) (h3 : (FloatKind.f64.format.order f f' == some .lt) = true) :
    Calls Tryd.prog 39 #[.agg #[.string k, .int .i64 n, .int .u64 u, .float .f64 f, .string s], .agg #[.string k', .int .i64 n', .int .u64 u', .float .f64 f', .string s']] w (BePost (-1) w) := by
  go_enter Tryd.func39, Tryd.ntmps39
  go_wp2
  go_ret
  exact ⟨rfl, by repeat (first | exact Below.refl _ _ | exact below_two _ _ _ | exact (Below.refl _ _).alloc (Nat.le_refl _) _ | refine Below.drew ?_ | refine below_drewN ?_ _)⟩

set_option maxRecDepth 100000 in
theorem be_s (k : ByteArray) (n u : Int) (f : Nat) (s : ByteArray) (k' : ByteArray) (n' u' : Int) (f' : Nat) (s' : ByteArray) (w : World) (h1 : n' ≤ n) (h2 : u' ≤ u) (h3 : (FloatKind.f64.format.order f f' == some .lt) = false) (h4 : Op.bytesLess s.toList s'.toList = true) :
    Calls Tryd.prog 39 #[.agg #[.string k, .int .i64 n, .int .u64 u, .float .f64 f, .string s], .agg #[.string k', .int .i64 n', .int .u64 u', .float .f64 f', .string s']] w (BePost (-1) w) := by
  go_enter Tryd.func39, Tryd.ntmps39
  go_wp2
  go_ret
  exact ⟨rfl, by repeat (first | exact Below.refl _ _ | exact below_two _ _ _ | exact (Below.refl _ _).alloc (Nat.le_refl _) _ | refine Below.drew ?_ | refine below_drewN ?_ _)⟩

set_option maxRecDepth 100000 in
theorem be_0 (k : ByteArray) (n u : Int) (f : Nat) (s : ByteArray) (k' : ByteArray) (n' u' : Int) (f' : Nat) (s' : ByteArray) (w : World) (h1 : n' = n) (h2 : u' = u) (h3 : (FloatKind.f64.format.order f f' == some .lt) = false) (h4 : Op.bytesLess s.toList s'.toList = false) (h5 : (FloatKind.f64.format.order f f' == some .gt) = false) (h6 : (s.toList == s'.toList) = true) :
    Calls Tryd.prog 39 #[.agg #[.string k, .int .i64 n, .int .u64 u, .float .f64 f, .string s], .agg #[.string k', .int .i64 n', .int .u64 u', .float .f64 f', .string s']] w (BePost (0) w) := by
  go_enter Tryd.func39, Tryd.ntmps39
  go_wp2
  go_ret
  exact ⟨rfl, by repeat (first | exact Below.refl _ _ | exact below_two _ _ _ | exact (Below.refl _ _).alloc (Nat.le_refl _) _ | refine Below.drew ?_ | refine below_drewN ?_ _)⟩

/-- None of the fields is above the other's. -/
structure NotAbove (n u : Int) (f : Nat) (s : ByteArray) (n' u' : Int) (f' : Nat) (s' : ByteArray) : Prop where
  n : n ≤ n'
  u : u ≤ u'
  f : (FloatKind.f64.format.order f f' == some .gt) = false
  s : Op.bytesLess s'.toList s.toList = false

/-- One number, in every world. -/
theorem be_all (k : ByteArray) (n u : Int) (f : Nat) (s : ByteArray) (k' : ByteArray) (n' u' : Int) (f' : Nat) (s' : ByteArray) (h : NotAbove n u f s n' u' f' s') : ∃ c : Int, (c = 0 ∨ c = -1) ∧ ∀ w, Calls Tryd.prog 39 #[.agg #[.string k, .int .i64 n, .int .u64 u, .float .f64 f, .string s], .agg #[.string k', .int .i64 n', .int .u64 u', .float .f64 f', .string s']] w (BePost c w) := by
  obtain ⟨h1, h2, h5, h6⟩ := h
  by_cases e1 : n < n'
  · exact ⟨-1, .inr rfl, fun w => be_n k n u f s k' n' u' f' s' w e1⟩
  by_cases e2 : u < u'
  · exact ⟨-1, .inr rfl, fun w => be_u k n u f s k' n' u' f' s' w (by omega) e2⟩
  cases e3 : (FloatKind.f64.format.order f f' == some .lt) with
  | true => exact ⟨-1, .inr rfl, fun w => be_f k n u f s k' n' u' f' s' w (by omega) (by omega) e3⟩
  | false =>
    cases e4 : Op.bytesLess s.toList s'.toList with
    | true => exact ⟨-1, .inr rfl, fun w => be_s k n u f s k' n' u' f' s' w (by omega) (by omega) e3 e4⟩
    | false =>
      refine ⟨0, .inl rfl, fun w => be_0 k n u f s k' n' u' f' s' w (by omega) (by omega) e3 e4 h5 ?_⟩
      rcases Classical.em (s.toList = s'.toList) with e | e
      · rw [e]; simp
      · rw [bytesLess_total _ _ e4 e] at h6; cases h6

end Go.Proofs.YtiijcmdfbgoafaaDoor
