/-
  laws.isInteger. PRINTED BY wip/tpl/gen_lawlen.py.
-/
import Derived.Test.YtiijcmdfbgoafaaDoorConc
namespace Go.Proofs.YtiijcmdfbgoafaaDoor
open Go.RowKit

set_option maxRecDepth 100000 in
set_option maxHeartbeats 1000000 in
theorem isInt_no (k : ByteArray) (n u : Int) (f : Nat) (s : ByteArray) (sg : Bool)
    (HW : Hid (∀ w, Calls Tryd.prog 10 #[.string k] w fun e w' => e = .returned (.tuple #[.int .i64 0, .bool sg]) ∧ w = w')) (w : World) :
    Calls Tryd.prog 17 #[.agg #[.string k, .int .i64 n, .int .u64 u, .float .f64 f, .string s]] w fun e w' => e = .returned (.bool false) ∧ Below w.heap.size w w' := by
  go_enter Tryd.func17, Tryd.ntmps17
  go_wp2_with (go_at_call 10; refine (HW.out _).mono ?_; rintro e w1 ⟨rfl, rfl⟩)
  go_ret
  exact ⟨rfl, by repeat (first | exact Below.refl _ _ | exact ((Below.refl _ _).alloc (Nat.le_refl _) _).alloc (by simp) _ | exact (Below.refl _ _).alloc (Nat.le_refl _) _ | refine Below.drew ?_ | refine Below.setCell ?_ (by first | omega | (simp; omega)) _ | refine Below.alloc ?_ (by first | omega | (simp; omega)) _ | refine below_drewN ?_ _ | refine up_below ?_ (Nat.le_refl _) (by assumption))⟩

set_option maxRecDepth 100000 in
set_option maxHeartbeats 1000000 in
theorem isInt_yes (k : ByteArray) (n u : Int) (f : Nat) (s : ByteArray) (c : Int) (hc : 0 < c) (sg b : Bool)
    (HW : Hid (∀ w, Calls Tryd.prog 10 #[.string k] w fun e w' => e = .returned (.tuple #[.int .i64 c, .bool sg]) ∧ w = w'))
    (HC : Hid (∀ w, Calls Tryd.prog 13 #[.agg #[.string k, .int .i64 n, .int .u64 u, .float .f64 f, .string s]] w fun e w' => e = .returned (.bool b) ∧ Below w.heap.size w w')) (w : World) :
    Calls Tryd.prog 17 #[.agg #[.string k, .int .i64 n, .int .u64 u, .float .f64 f, .string s]] w fun e w' => e = .returned (.bool b) ∧ Below w.heap.size w w' := by
  go_enter Tryd.func17, Tryd.ntmps17
  go_wp2_with (first | (go_at_call 10; refine (HW.out _).mono ?_; rintro e w1 ⟨rfl, rfl⟩) | (go_at_call 13; refine (HC.out _).mono ?_; rintro e w1 ⟨rfl, hb1⟩))
  go_ret
  exact ⟨rfl, by repeat (first | exact Below.refl _ _ | exact ((Below.refl _ _).alloc (Nat.le_refl _) _).alloc (by simp) _ | exact (Below.refl _ _).alloc (Nat.le_refl _) _ | refine Below.drew ?_ | refine Below.setCell ?_ (by first | omega | (simp; omega)) _ | refine Below.alloc ?_ (by first | omega | (simp; omega)) _ | refine below_drewN ?_ _ | refine up_below ?_ (Nat.le_refl _) (by assumption))⟩

theorem isInteger_any (k : ByteArray) (n u : Int) (f : Nat) (s : ByteArray) (w : World) : Calls Tryd.prog 17 #[.agg #[.string k, .int .i64 n, .int .u64 u, .float .f64 f, .string s]] w fun e w' => e = .returned (.bool (decide (0 < (Kd.of k.toList).width) && concB (Kd.of k.toList) n u f s)) ∧ Below w.heap.size w w' := by
  have hw := fun w => width_any k w
  have hc := fun w => concrete_any k n u f s w
  by_cases h : 0 < (Kd.of k.toList).width
  · rw [decide_eq_true h, Bool.true_and]
    exact isInt_yes k n u f s _ h _ _ hw hc w
  · have h0 : (Kd.of k.toList).width = 0 := by
      generalize Kd.of k.toList = K at h ⊢
      cases K with
      | int q => cases q <;> exact absurd (by decide) h
      | _ => first | rfl | exact absurd (by decide) h
    rw [decide_eq_false h, Bool.false_and]
    rw [h0] at hw
    exact isInt_no k n u f s _ hw w

end Go.Proofs.YtiijcmdfbgoafaaDoor
