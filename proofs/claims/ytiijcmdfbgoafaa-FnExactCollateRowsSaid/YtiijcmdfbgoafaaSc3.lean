/-
  The reference's order of two values of one ordered type. PRINTED BY wip/tpl/gen_sc3.py.
-/
import Derived.Test.YtiijcmdfbgoafaaSc2
import Derived.Test.YtiijcmdfbgoafaaBw
namespace Go.Proofs.Ytiijcmdfbgoafaa
open Go.RowKit

set_option maxRecDepth 100000 in
set_option maxHeartbeats 1000000 in
theorem vCmp_s (k : ByteArray) (n u : Int) (f : Nat) (s k' : ByteArray) (n' u' : Int) (f' : Nat) (s' : ByteArray) (HS : Hid (∀ w, Calls Try.prog 53 #[.string k] w fun e w' => e = .returned (.bool true) ∧ w = w')) (w : World) : Calls Try.prog 44 #[.agg #[.string k, .int .i64 n, .int .u64 u, .float .f64 f, .string s], .agg #[.string k', .int .i64 n', .int .u64 u', .float .f64 f', .string s']] w fun e w' => e = .returned (.int .i64 (ord2 (decide (n < n')) (decide (n' < n)))) ∧ Below w.heap.size w w' := by
  go_enter Try.func44, Try.ntmps44
  go_wp2_with (first | (go_at_call 54; refine (vOrder_any _ _ _).mono ?_; rintro e w2 ⟨rfl, rfl⟩) | (go_at_call 53; refine (HS.out _).mono ?_; rintro e w1 ⟨rfl, rfl⟩))
  go_ret
  exact ⟨rfl, ((Below.refl _ _).alloc (Nat.le_refl _) _).alloc (by simp) _⟩

set_option maxRecDepth 100000 in
set_option maxHeartbeats 1000000 in
theorem vCmp_u (k : ByteArray) (n u : Int) (f : Nat) (s k' : ByteArray) (n' u' : Int) (f' : Nat) (s' : ByteArray) (HS : Hid (∀ w, Calls Try.prog 53 #[.string k] w fun e w' => e = .returned (.bool false) ∧ w = w')) (HU : Hid (∀ w, Calls Try.prog 55 #[.string k] w fun e w' => e = .returned (.bool true) ∧ w = w')) (w : World) : Calls Try.prog 44 #[.agg #[.string k, .int .i64 n, .int .u64 u, .float .f64 f, .string s], .agg #[.string k', .int .i64 n', .int .u64 u', .float .f64 f', .string s']] w fun e w' => e = .returned (.int .i64 (ord2 (decide (u < u')) (decide (u' < u)))) ∧ Below w.heap.size w w' := by
  go_enter Try.func44, Try.ntmps44
  go_wp2_with (first | (go_at_call 54; refine (vOrder_any _ _ _).mono ?_; rintro e w2 ⟨rfl, rfl⟩) | (go_at_call 53; refine (HS.out _).mono ?_; rintro e w1 ⟨rfl, rfl⟩) | (go_at_call 55; refine (HU.out _).mono ?_; rintro e w1 ⟨rfl, rfl⟩))
  go_ret
  exact ⟨rfl, ((Below.refl _ _).alloc (Nat.le_refl _) _).alloc (by simp) _⟩

set_option maxRecDepth 100000 in
set_option maxHeartbeats 1000000 in
theorem vCmp_f (k : ByteArray) (n u : Int) (f : Nat) (s k' : ByteArray) (n' u' : Int) (f' : Nat) (s' : ByteArray) (HS : Hid (∀ w, Calls Try.prog 53 #[.string k] w fun e w' => e = .returned (.bool false) ∧ w = w')) (HU : Hid (∀ w, Calls Try.prog 55 #[.string k] w fun e w' => e = .returned (.bool false) ∧ w = w')) (HF : Hid (∀ w, Calls Try.prog 52 #[.string k] w fun e w' => e = .returned (.bool true) ∧ w = w')) (w : World) : Calls Try.prog 44 #[.agg #[.string k, .int .i64 n, .int .u64 u, .float .f64 f, .string s], .agg #[.string k', .int .i64 n', .int .u64 u', .float .f64 f', .string s']] w fun e w' => e = .returned (.int .i64 (ord2 (FloatKind.f64.format.order f f' == some .lt) (FloatKind.f64.format.order f f' == some .gt))) ∧ Below w.heap.size w w' := by
  go_enter Try.func44, Try.ntmps44
  go_wp2_with (first | (go_at_call 54; refine (vOrder_any _ _ _).mono ?_; rintro e w2 ⟨rfl, rfl⟩) | (go_at_call 53; refine (HS.out _).mono ?_; rintro e w1 ⟨rfl, rfl⟩) | (go_at_call 55; refine (HU.out _).mono ?_; rintro e w1 ⟨rfl, rfl⟩) | (go_at_call 52; refine (HF.out _).mono ?_; rintro e w1 ⟨rfl, rfl⟩))
  go_ret
  exact ⟨rfl, ((Below.refl _ _).alloc (Nat.le_refl _) _).alloc (by simp) _⟩

set_option maxRecDepth 100000 in
set_option maxHeartbeats 1000000 in
theorem vCmp_t (k : ByteArray) (n u : Int) (f : Nat) (s k' : ByteArray) (n' u' : Int) (f' : Nat) (s' : ByteArray) (HS : Hid (∀ w, Calls Try.prog 53 #[.string k] w fun e w' => e = .returned (.bool false) ∧ w = w')) (HU : Hid (∀ w, Calls Try.prog 55 #[.string k] w fun e w' => e = .returned (.bool false) ∧ w = w')) (HF : Hid (∀ w, Calls Try.prog 52 #[.string k] w fun e w' => e = .returned (.bool false) ∧ w = w')) (ha : s.size ≤ 65536) (hb : s'.size ≤ 65536) (w : World) : Calls Try.prog 44 #[.agg #[.string k, .int .i64 n, .int .u64 u, .float .f64 f, .string s], .agg #[.string k', .int .i64 n', .int .u64 u', .float .f64 f', .string s']] w fun e w' => e = .returned (.int .i64 (bytesOrd s.data.toList s'.data.toList)) ∧ Below w.heap.size w w' := by
  go_enter Try.func44, Try.ntmps44
  go_wp2_with (first | (go_at_call 53; refine (HS.out _).mono ?_; rintro e w1 ⟨rfl, rfl⟩) | (go_at_call 55; refine (HU.out _).mono ?_; rintro e w1 ⟨rfl, rfl⟩) | (go_at_call 52; refine (HF.out _).mono ?_; rintro e w1 ⟨rfl, rfl⟩) | (go_at_call 56; refine (vTexts_any _ _ _ ha hb).mono ?_; rintro e w2 ⟨rfl, hb2⟩))
  go_ret
  exact ⟨rfl, up_below (((Below.refl _ _).alloc (Nat.le_refl _) _).alloc (by simp) _) (Nat.le_refl _) hb2⟩

end Go.Proofs.Ytiijcmdfbgoafaa
