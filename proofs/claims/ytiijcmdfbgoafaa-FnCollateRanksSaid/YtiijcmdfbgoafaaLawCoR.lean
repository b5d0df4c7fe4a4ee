/-
  The walk of laws.FnCollateRanks: it returns true. PRINTED BY wip/tpl/gen_coc.py.
-/
import Derived.Test.YtiijcmdfbgoafaaCols
import Derived.Test.YtiijcmdfbgoafaaBw
import Derived.Deep.RegionWith
namespace Go.Proofs.Ytiijcmdfbgoafaa
open Go.RowKit

set_option maxRecDepth 100000 in
set_option maxHeartbeats 1000000 in
theorem lawCoR_long1 (k : ByteArray) (n u : Int) (f : Nat) (s : ByteArray) (k' : ByteArray) (n' u' : Int) (f' : Nat) (s' : ByteArray)
    (HZ : Hid (∀ w, Calls Try.prog 8 #[.agg #[.string k, .int .i64 n, .int .u64 u, .float .f64 f, .string s]] w fun e w' => e = .returned (.bool false) ∧ Below w.heap.size w w')) (w : World) :
    Calls Try.prog 5 #[.agg #[.string k, .int .i64 n, .int .u64 u, .float .f64 f, .string s], .agg #[.string k', .int .i64 n', .int .u64 u', .float .f64 f', .string s']] w fun e w' => e = .returned (.bool true) ∧ Below w.heap.size w w' := by
  go_enter Try.func5, Try.ntmps5
  go_wp2_with (first | (go_at_call_of 8 (Value.agg #[.string k, .int .i64 n, .int .u64 u, .float .f64 f, .string s]); refine (HZ.out _).mono ?_; rintro e w1 ⟨rfl, hb1⟩; obtain ⟨hc1, hf1⟩ := bcell hb1; have hz1 : w.heap.size < w1.heap.size := (by have := hb1.size; (try simp at this); omega); have hy1 : w.heap.size + 1 < w1.heap.size := (by have := hb1.size; (try simp at this); omega)))
  go_ret
  exact ⟨rfl, by repeat (first | exact Below.refl _ _ | exact below_al3 _ _ _ _ | exact ((Below.refl _ _).alloc (Nat.le_refl _) _).alloc (by simp) _ | exact (Below.refl _ _).alloc (Nat.le_refl _) _ | refine Below.drew ?_ | refine Below.setCell ?_ (by first | omega | (simp; omega)) _ | refine Below.alloc ?_ (by first | omega | (simp; omega)) _ | refine below_drewN ?_ _ | refine up_below ?_ (Nat.le_refl _) (by assumption))⟩

set_option maxRecDepth 100000 in
set_option maxHeartbeats 1000000 in
theorem lawCoR_long2 (k : ByteArray) (n u : Int) (f : Nat) (s : ByteArray) (k' : ByteArray) (n' u' : Int) (f' : Nat) (s' : ByteArray)
    (HZ : Hid (∀ w, Calls Try.prog 8 #[.agg #[.string k, .int .i64 n, .int .u64 u, .float .f64 f, .string s]] w fun e w' => e = .returned (.bool true) ∧ Below w.heap.size w w')) (HZ' : Hid (∀ w, Calls Try.prog 8 #[.agg #[.string k', .int .i64 n', .int .u64 u', .float .f64 f', .string s']] w fun e w' => e = .returned (.bool false) ∧ Below w.heap.size w w')) (w : World) :
    Calls Try.prog 5 #[.agg #[.string k, .int .i64 n, .int .u64 u, .float .f64 f, .string s], .agg #[.string k', .int .i64 n', .int .u64 u', .float .f64 f', .string s']] w fun e w' => e = .returned (.bool true) ∧ Below w.heap.size w w' := by
  go_enter Try.func5, Try.ntmps5
  go_wp2_with (first | (go_at_call_of 8 (Value.agg #[.string k, .int .i64 n, .int .u64 u, .float .f64 f, .string s]); refine (HZ.out _).mono ?_; rintro e w1 ⟨rfl, hb1⟩; obtain ⟨hc1, hf1⟩ := bcell hb1; have hz1 : w.heap.size < w1.heap.size := (by have := hb1.size; (try simp at this); omega); have hy1 : w.heap.size + 1 < w1.heap.size := (by have := hb1.size; (try simp at this); omega)) | (go_at_call_of 8 (Value.agg #[.string k', .int .i64 n', .int .u64 u', .float .f64 f', .string s']); refine (HZ'.out _).mono ?_; rintro e w2 ⟨rfl, hb2⟩; obtain ⟨hc2, hf2⟩ := bcell hb2; have hz2 : w.heap.size < w2.heap.size := (by have := hb2.size; (try simp at this); omega); have hy2 : w.heap.size + 1 < w2.heap.size := (by have := hb2.size; (try simp at this); omega)))
  go_ret
  exact ⟨rfl, by repeat (first | exact Below.refl _ _ | exact below_al3 _ _ _ _ | exact ((Below.refl _ _).alloc (Nat.le_refl _) _).alloc (by simp) _ | exact (Below.refl _ _).alloc (Nat.le_refl _) _ | refine Below.drew ?_ | refine Below.setCell ?_ (by first | omega | (simp; omega)) _ | refine Below.alloc ?_ (by first | omega | (simp; omega)) _ | refine below_drewN ?_ _ | refine up_below ?_ (Nat.le_refl _) (by assumption))⟩

set_option maxRecDepth 100000 in
set_option maxHeartbeats 1000000 in
theorem lawCoR_no1 (k : ByteArray) (n u : Int) (f : Nat) (s : ByteArray) (k' : ByteArray) (n' u' : Int) (f' : Nat) (s' : ByteArray)
    (HZ : Hid (∀ w, Calls Try.prog 8 #[.agg #[.string k, .int .i64 n, .int .u64 u, .float .f64 f, .string s]] w fun e w' => e = .returned (.bool true) ∧ Below w.heap.size w w'))
    (HZ' : Hid (∀ w, Calls Try.prog 8 #[.agg #[.string k', .int .i64 n', .int .u64 u', .float .f64 f', .string s']] w fun e w' => e = .returned (.bool true) ∧ Below w.heap.size w w'))
    (HC : Hid (∀ w, Calls Try.prog 9 #[.agg #[.string k, .int .i64 n, .int .u64 u, .float .f64 f, .string s]] w fun e w' => e = .returned (.bool false) ∧ Below w.heap.size w w')) (w : World) :
    Calls Try.prog 5 #[.agg #[.string k, .int .i64 n, .int .u64 u, .float .f64 f, .string s], .agg #[.string k', .int .i64 n', .int .u64 u', .float .f64 f', .string s']] w fun e w' => e = .returned (.bool true) ∧ Below w.heap.size w w' := by
  go_enter Try.func5, Try.ntmps5
  go_wp2_with (first | (go_at_call_of 8 (Value.agg #[.string k, .int .i64 n, .int .u64 u, .float .f64 f, .string s]); refine (HZ.out _).mono ?_; rintro e w1 ⟨rfl, hb1⟩; obtain ⟨hc1, hf1⟩ := bcell hb1; have hz1 : w.heap.size < w1.heap.size := (by have := hb1.size; (try simp at this); omega); have hy1 : w.heap.size + 1 < w1.heap.size := (by have := hb1.size; (try simp at this); omega)) | (go_at_call_of 8 (Value.agg #[.string k', .int .i64 n', .int .u64 u', .float .f64 f', .string s']); refine (HZ'.out _).mono ?_; rintro e w2 ⟨rfl, hb2⟩; obtain ⟨hc2, hf2⟩ := bcell hb2; have hz2 : w.heap.size < w2.heap.size := (by have := hb2.size; (try simp at this); omega); have hy2 : w.heap.size + 1 < w2.heap.size := (by have := hb2.size; (try simp at this); omega)) | (go_at_call_of 9 (Value.agg #[.string k, .int .i64 n, .int .u64 u, .float .f64 f, .string s]); refine (HC.out _).mono ?_; rintro e w4 ⟨rfl, hb4⟩; obtain ⟨hc4, hf4⟩ := bcell hb4; have hz4 : w.heap.size < w4.heap.size := (by have := hb4.size; (try simp at this); omega); have hy4 : w.heap.size + 1 < w4.heap.size := (by have := hb4.size; (try simp at this); omega)) | (go_at_call 10; refine (collates_any _).mono ?_; rintro e w10 ⟨rfl, hb10⟩))
  go_ret
  exact ⟨rfl, by repeat (first | exact Below.refl _ _ | exact below_al3 _ _ _ _ | exact ((Below.refl _ _).alloc (Nat.le_refl _) _).alloc (by simp) _ | exact (Below.refl _ _).alloc (Nat.le_refl _) _ | refine Below.drew ?_ | refine Below.setCell ?_ (by first | omega | (simp; omega)) _ | refine Below.alloc ?_ (by first | omega | (simp; omega)) _ | refine below_drewN ?_ _ | refine up_below ?_ (Nat.le_refl _) (by assumption))⟩

set_option maxRecDepth 100000 in
set_option maxHeartbeats 1000000 in
theorem lawCoR_no2 (k : ByteArray) (n u : Int) (f : Nat) (s : ByteArray) (k' : ByteArray) (n' u' : Int) (f' : Nat) (s' : ByteArray)
    (HZ : Hid (∀ w, Calls Try.prog 8 #[.agg #[.string k, .int .i64 n, .int .u64 u, .float .f64 f, .string s]] w fun e w' => e = .returned (.bool true) ∧ Below w.heap.size w w'))
    (HZ' : Hid (∀ w, Calls Try.prog 8 #[.agg #[.string k', .int .i64 n', .int .u64 u', .float .f64 f', .string s']] w fun e w' => e = .returned (.bool true) ∧ Below w.heap.size w w'))
    (HC : Hid (∀ w, Calls Try.prog 9 #[.agg #[.string k, .int .i64 n, .int .u64 u, .float .f64 f, .string s]] w fun e w' => e = .returned (.bool true) ∧ Below w.heap.size w w'))
    (HC' : Hid (∀ w, Calls Try.prog 9 #[.agg #[.string k', .int .i64 n', .int .u64 u', .float .f64 f', .string s']] w fun e w' => e = .returned (.bool false) ∧ Below w.heap.size w w')) (w : World) :
    Calls Try.prog 5 #[.agg #[.string k, .int .i64 n, .int .u64 u, .float .f64 f, .string s], .agg #[.string k', .int .i64 n', .int .u64 u', .float .f64 f', .string s']] w fun e w' => e = .returned (.bool true) ∧ Below w.heap.size w w' := by
  go_enter Try.func5, Try.ntmps5
  go_wp2_with (first | (go_at_call_of 8 (Value.agg #[.string k, .int .i64 n, .int .u64 u, .float .f64 f, .string s]); refine (HZ.out _).mono ?_; rintro e w1 ⟨rfl, hb1⟩; obtain ⟨hc1, hf1⟩ := bcell hb1; have hz1 : w.heap.size < w1.heap.size := (by have := hb1.size; (try simp at this); omega); have hy1 : w.heap.size + 1 < w1.heap.size := (by have := hb1.size; (try simp at this); omega)) | (go_at_call_of 8 (Value.agg #[.string k', .int .i64 n', .int .u64 u', .float .f64 f', .string s']); refine (HZ'.out _).mono ?_; rintro e w2 ⟨rfl, hb2⟩; obtain ⟨hc2, hf2⟩ := bcell hb2; have hz2 : w.heap.size < w2.heap.size := (by have := hb2.size; (try simp at this); omega); have hy2 : w.heap.size + 1 < w2.heap.size := (by have := hb2.size; (try simp at this); omega)) | (go_at_call_of 9 (Value.agg #[.string k, .int .i64 n, .int .u64 u, .float .f64 f, .string s]); refine (HC.out _).mono ?_; rintro e w4 ⟨rfl, hb4⟩; obtain ⟨hc4, hf4⟩ := bcell hb4; have hz4 : w.heap.size < w4.heap.size := (by have := hb4.size; (try simp at this); omega); have hy4 : w.heap.size + 1 < w4.heap.size := (by have := hb4.size; (try simp at this); omega)) | (go_at_call_of 9 (Value.agg #[.string k', .int .i64 n', .int .u64 u', .float .f64 f', .string s']); refine (HC'.out _).mono ?_; rintro e w5 ⟨rfl, hb5⟩; obtain ⟨hc5, hf5⟩ := bcell hb5; have hz5 : w.heap.size < w5.heap.size := (by have := hb5.size; (try simp at this); omega); have hy5 : w.heap.size + 1 < w5.heap.size := (by have := hb5.size; (try simp at this); omega)) | (go_at_call 10; refine (collates_any _).mono ?_; rintro e w10 ⟨rfl, hb10⟩))
  go_ret
  exact ⟨rfl, by repeat (first | exact Below.refl _ _ | exact below_al3 _ _ _ _ | exact ((Below.refl _ _).alloc (Nat.le_refl _) _).alloc (by simp) _ | exact (Below.refl _ _).alloc (Nat.le_refl _) _ | refine Below.drew ?_ | refine Below.setCell ?_ (by first | omega | (simp; omega)) _ | refine Below.alloc ?_ (by first | omega | (simp; omega)) _ | refine below_drewN ?_ _ | refine up_below ?_ (Nat.le_refl _) (by assumption))⟩

set_option maxRecDepth 100000 in
set_option maxHeartbeats 1000000 in
theorem lawCoR_null1 (k : ByteArray) (n u : Int) (f : Nat) (s : ByteArray) (k' : ByteArray) (n' u' : Int) (f' : Nat) (s' : ByteArray)
    (hk : k.toList.isEmpty = true) (HZ : Hid (∀ w, Calls Try.prog 8 #[.agg #[.string k, .int .i64 n, .int .u64 u, .float .f64 f, .string s]] w fun e w' => e = .returned (.bool true) ∧ Below w.heap.size w w'))
    (HZ' : Hid (∀ w, Calls Try.prog 8 #[.agg #[.string k', .int .i64 n', .int .u64 u', .float .f64 f', .string s']] w fun e w' => e = .returned (.bool true) ∧ Below w.heap.size w w'))
    (HC : Hid (∀ w, Calls Try.prog 9 #[.agg #[.string k, .int .i64 n, .int .u64 u, .float .f64 f, .string s]] w fun e w' => e = .returned (.bool true) ∧ Below w.heap.size w w'))
    (HC' : Hid (∀ w, Calls Try.prog 9 #[.agg #[.string k', .int .i64 n', .int .u64 u', .float .f64 f', .string s']] w fun e w' => e = .returned (.bool true) ∧ Below w.heap.size w w'))
     (w : World) :
    Calls Try.prog 5 #[.agg #[.string k, .int .i64 n, .int .u64 u, .float .f64 f, .string s], .agg #[.string k', .int .i64 n', .int .u64 u', .float .f64 f', .string s']] w fun e w' => e = .returned (.bool true) ∧ Below w.heap.size w w' := by
  go_enter Try.func5, Try.ntmps5
  go_wp2_with (first | (go_at_call_of 8 (Value.agg #[.string k, .int .i64 n, .int .u64 u, .float .f64 f, .string s]); refine (HZ.out _).mono ?_; rintro e w1 ⟨rfl, hb1⟩; obtain ⟨hc1, hf1⟩ := bcell hb1; have hz1 : w.heap.size < w1.heap.size := (by have := hb1.size; (try simp at this); omega); have hy1 : w.heap.size + 1 < w1.heap.size := (by have := hb1.size; (try simp at this); omega)) | (go_at_call_of 8 (Value.agg #[.string k', .int .i64 n', .int .u64 u', .float .f64 f', .string s']); refine (HZ'.out _).mono ?_; rintro e w2 ⟨rfl, hb2⟩; obtain ⟨hc2, hf2⟩ := bcell hb2; have hz2 : w.heap.size < w2.heap.size := (by have := hb2.size; (try simp at this); omega); have hy2 : w.heap.size + 1 < w2.heap.size := (by have := hb2.size; (try simp at this); omega)) | (go_at_call_of 9 (Value.agg #[.string k, .int .i64 n, .int .u64 u, .float .f64 f, .string s]); refine (HC.out _).mono ?_; rintro e w4 ⟨rfl, hb4⟩; obtain ⟨hc4, hf4⟩ := bcell hb4; have hz4 : w.heap.size < w4.heap.size := (by have := hb4.size; (try simp at this); omega); have hy4 : w.heap.size + 1 < w4.heap.size := (by have := hb4.size; (try simp at this); omega)) | (go_at_call_of 9 (Value.agg #[.string k', .int .i64 n', .int .u64 u', .float .f64 f', .string s']); refine (HC'.out _).mono ?_; rintro e w5 ⟨rfl, hb5⟩; obtain ⟨hc5, hf5⟩ := bcell hb5; have hz5 : w.heap.size < w5.heap.size := (by have := hb5.size; (try simp at this); omega); have hy5 : w.heap.size + 1 < w5.heap.size := (by have := hb5.size; (try simp at this); omega)) | (go_at_call 10; refine (collates_any _).mono ?_; rintro e w10 ⟨rfl, hb10⟩))
  go_ret
  exact ⟨rfl, by repeat (first | exact Below.refl _ _ | exact below_al3 _ _ _ _ | exact ((Below.refl _ _).alloc (Nat.le_refl _) _).alloc (by simp) _ | exact (Below.refl _ _).alloc (Nat.le_refl _) _ | refine Below.drew ?_ | refine Below.setCell ?_ (by first | omega | (simp; omega)) _ | refine Below.alloc ?_ (by first | omega | (simp; omega)) _ | refine below_drewN ?_ _ | refine up_below ?_ (Nat.le_refl _) (by assumption))⟩

set_option maxRecDepth 100000 in
set_option maxHeartbeats 1000000 in
theorem lawCoR_null2 (k : ByteArray) (n u : Int) (f : Nat) (s : ByteArray) (k' : ByteArray) (n' u' : Int) (f' : Nat) (s' : ByteArray)
    (hk : k.toList.isEmpty = false) (hk' : k'.toList.isEmpty = true) (HZ : Hid (∀ w, Calls Try.prog 8 #[.agg #[.string k, .int .i64 n, .int .u64 u, .float .f64 f, .string s]] w fun e w' => e = .returned (.bool true) ∧ Below w.heap.size w w'))
    (HZ' : Hid (∀ w, Calls Try.prog 8 #[.agg #[.string k', .int .i64 n', .int .u64 u', .float .f64 f', .string s']] w fun e w' => e = .returned (.bool true) ∧ Below w.heap.size w w'))
    (HC : Hid (∀ w, Calls Try.prog 9 #[.agg #[.string k, .int .i64 n, .int .u64 u, .float .f64 f, .string s]] w fun e w' => e = .returned (.bool true) ∧ Below w.heap.size w w'))
    (HC' : Hid (∀ w, Calls Try.prog 9 #[.agg #[.string k', .int .i64 n', .int .u64 u', .float .f64 f', .string s']] w fun e w' => e = .returned (.bool true) ∧ Below w.heap.size w w'))
     (w : World) :
    Calls Try.prog 5 #[.agg #[.string k, .int .i64 n, .int .u64 u, .float .f64 f, .string s], .agg #[.string k', .int .i64 n', .int .u64 u', .float .f64 f', .string s']] w fun e w' => e = .returned (.bool true) ∧ Below w.heap.size w w' := by
  go_enter Try.func5, Try.ntmps5
  go_wp2_with (first | (go_at_call_of 8 (Value.agg #[.string k, .int .i64 n, .int .u64 u, .float .f64 f, .string s]); refine (HZ.out _).mono ?_; rintro e w1 ⟨rfl, hb1⟩; obtain ⟨hc1, hf1⟩ := bcell hb1; have hz1 : w.heap.size < w1.heap.size := (by have := hb1.size; (try simp at this); omega); have hy1 : w.heap.size + 1 < w1.heap.size := (by have := hb1.size; (try simp at this); omega)) | (go_at_call_of 8 (Value.agg #[.string k', .int .i64 n', .int .u64 u', .float .f64 f', .string s']); refine (HZ'.out _).mono ?_; rintro e w2 ⟨rfl, hb2⟩; obtain ⟨hc2, hf2⟩ := bcell hb2; have hz2 : w.heap.size < w2.heap.size := (by have := hb2.size; (try simp at this); omega); have hy2 : w.heap.size + 1 < w2.heap.size := (by have := hb2.size; (try simp at this); omega)) | (go_at_call_of 9 (Value.agg #[.string k, .int .i64 n, .int .u64 u, .float .f64 f, .string s]); refine (HC.out _).mono ?_; rintro e w4 ⟨rfl, hb4⟩; obtain ⟨hc4, hf4⟩ := bcell hb4; have hz4 : w.heap.size < w4.heap.size := (by have := hb4.size; (try simp at this); omega); have hy4 : w.heap.size + 1 < w4.heap.size := (by have := hb4.size; (try simp at this); omega)) | (go_at_call_of 9 (Value.agg #[.string k', .int .i64 n', .int .u64 u', .float .f64 f', .string s']); refine (HC'.out _).mono ?_; rintro e w5 ⟨rfl, hb5⟩; obtain ⟨hc5, hf5⟩ := bcell hb5; have hz5 : w.heap.size < w5.heap.size := (by have := hb5.size; (try simp at this); omega); have hy5 : w.heap.size + 1 < w5.heap.size := (by have := hb5.size; (try simp at this); omega)) | (go_at_call 10; refine (collates_any _).mono ?_; rintro e w10 ⟨rfl, hb10⟩))
  go_ret
  exact ⟨rfl, by repeat (first | exact Below.refl _ _ | exact below_al3 _ _ _ _ | exact ((Below.refl _ _).alloc (Nat.le_refl _) _).alloc (by simp) _ | exact (Below.refl _ _).alloc (Nat.le_refl _) _ | refine Below.drew ?_ | refine Below.setCell ?_ (by first | omega | (simp; omega)) _ | refine Below.alloc ?_ (by first | omega | (simp; omega)) _ | refine below_drewN ?_ _ | refine up_below ?_ (Nat.le_refl _) (by assumption))⟩

set_option maxRecDepth 100000 in
set_option maxHeartbeats 1000000 in
theorem lawCoR_same (k : ByteArray) (n u : Int) (f : Nat) (s : ByteArray) (k' : ByteArray) (n' u' : Int) (f' : Nat) (s' : ByteArray)
    (hk : k.toList.isEmpty = false) (hk' : k'.toList.isEmpty = false) (he : (k.toList == k'.toList) = true) (r : Int) (HZ : Hid (∀ w, Calls Try.prog 8 #[.agg #[.string k, .int .i64 n, .int .u64 u, .float .f64 f, .string s]] w fun e w' => e = .returned (.bool true) ∧ Below w.heap.size w w'))
    (HZ' : Hid (∀ w, Calls Try.prog 8 #[.agg #[.string k', .int .i64 n', .int .u64 u', .float .f64 f', .string s']] w fun e w' => e = .returned (.bool true) ∧ Below w.heap.size w w'))
    (HC : Hid (∀ w, Calls Try.prog 9 #[.agg #[.string k, .int .i64 n, .int .u64 u, .float .f64 f, .string s]] w fun e w' => e = .returned (.bool true) ∧ Below w.heap.size w w'))
    (HC' : Hid (∀ w, Calls Try.prog 9 #[.agg #[.string k', .int .i64 n', .int .u64 u', .float .f64 f', .string s']] w fun e w' => e = .returned (.bool true) ∧ Below w.heap.size w w'))
    (HR1 : Hid (∀ w, Calls Try.prog 14 #[.agg #[.string k, .int .i64 n, .int .u64 u, .float .f64 f, .string s]] w fun e w' => e = .returned (.int .i64 r) ∧ Below w.heap.size w w'))
    (HR2 : Hid (∀ w, Calls Try.prog 14 #[.agg #[.string k', .int .i64 n', .int .u64 u', .float .f64 f', .string s']] w fun e w' => e = .returned (.int .i64 r) ∧ Below w.heap.size w w')) (w : World) :
    Calls Try.prog 5 #[.agg #[.string k, .int .i64 n, .int .u64 u, .float .f64 f, .string s], .agg #[.string k', .int .i64 n', .int .u64 u', .float .f64 f', .string s']] w fun e w' => e = .returned (.bool true) ∧ Below w.heap.size w w' := by
  go_enter Try.func5, Try.ntmps5
  go_wp2_with (first | (go_at_call_of 8 (Value.agg #[.string k, .int .i64 n, .int .u64 u, .float .f64 f, .string s]); refine (HZ.out _).mono ?_; rintro e w1 ⟨rfl, hb1⟩; obtain ⟨hc1, hf1⟩ := bcell hb1; have hz1 : w.heap.size < w1.heap.size := (by have := hb1.size; (try simp at this); omega); have hy1 : w.heap.size + 1 < w1.heap.size := (by have := hb1.size; (try simp at this); omega)) | (go_at_call_of 8 (Value.agg #[.string k', .int .i64 n', .int .u64 u', .float .f64 f', .string s']); refine (HZ'.out _).mono ?_; rintro e w2 ⟨rfl, hb2⟩; obtain ⟨hc2, hf2⟩ := bcell hb2; have hz2 : w.heap.size < w2.heap.size := (by have := hb2.size; (try simp at this); omega); have hy2 : w.heap.size + 1 < w2.heap.size := (by have := hb2.size; (try simp at this); omega)) | (go_at_call_of 9 (Value.agg #[.string k, .int .i64 n, .int .u64 u, .float .f64 f, .string s]); refine (HC.out _).mono ?_; rintro e w4 ⟨rfl, hb4⟩; obtain ⟨hc4, hf4⟩ := bcell hb4; have hz4 : w.heap.size < w4.heap.size := (by have := hb4.size; (try simp at this); omega); have hy4 : w.heap.size + 1 < w4.heap.size := (by have := hb4.size; (try simp at this); omega)) | (go_at_call_of 9 (Value.agg #[.string k', .int .i64 n', .int .u64 u', .float .f64 f', .string s']); refine (HC'.out _).mono ?_; rintro e w5 ⟨rfl, hb5⟩; obtain ⟨hc5, hf5⟩ := bcell hb5; have hz5 : w.heap.size < w5.heap.size := (by have := hb5.size; (try simp at this); omega); have hy5 : w.heap.size + 1 < w5.heap.size := (by have := hb5.size; (try simp at this); omega)))
  have hpc := fun (p : BW w5) => p.cell
  refine wp_region_bw (by kernel_rfl) (by kernel_rfl) ?_
  repeat (quiet_step ((first | (go_at_call_of 14 (Value.agg #[.string k, .int .i64 n, .int .u64 u, .float .f64 f, .string s]); exact bw_of (HR1.out _)) | (go_at_call_of 14 (Value.agg #[.string k', .int .i64 n', .int .u64 u', .float .f64 f', .string s']); exact bw_of (HR2.out _)))))
  refine wpQuiet_nil ?_
  intro _ hw'
  obtain ⟨pq, hw''⟩ := hw'
  subst hw''
  have hbpq := pq.h
  have hzpq := Nat.lt_of_lt_of_le hz5 pq.h.size
  have hypq := Nat.lt_of_lt_of_le hy5 pq.h.size
  go_wp2_with ((go_at_call 10; refine (collates_any _).mono ?_; rintro e w10 ⟨rfl, hb10⟩))
  go_ret
  exact ⟨rfl, by repeat (first | exact Below.refl _ _ | exact below_al3 _ _ _ _ | exact ((Below.refl _ _).alloc (Nat.le_refl _) _).alloc (by simp) _ | exact (Below.refl _ _).alloc (Nat.le_refl _) _ | refine Below.drew ?_ | refine Below.setCell ?_ (by first | omega | (simp; omega)) _ | refine Below.alloc ?_ (by first | omega | (simp; omega)) _ | refine below_drewN ?_ _ | refine up_below ?_ (Nat.le_refl _) (by assumption))⟩

theorem sign_to (d n : Int) (h : sgn n = d) (w : World) : Calls Try.prog 13 #[.int .i64 n] w fun e w' => e = .returned (.int .i64 d) ∧ w = w' := by
  subst h
  exact sign_any n w
theorem wrapI {n : Int} (h1 : -9223372036854775808 ≤ n) (h2 : n ≤ 9223372036854775807) : IntKind.i64.wrap n = n := wrap_i (by simp [IntKind.min, IntKind.signed, IntKind.bits]; omega) (by simp [IntKind.max, IntKind.signed, IntKind.bits]; omega)
theorem wrap64_small {n : Int} (h1 : -9223372036854775808 ≤ n) (h2 : n ≤ 9223372036854775807) : wrap64 n = n := by unfold wrap64; omega

set_option maxRecDepth 100000 in
set_option maxHeartbeats 1000000 in
theorem lawCoR_diff (k : ByteArray) (n u : Int) (f : Nat) (s : ByteArray) (k' : ByteArray) (n' u' : Int) (f' : Nat) (s' : ByteArray)
    (hk : k.toList.isEmpty = false) (hk' : k'.toList.isEmpty = false) (he : (k.toList == k'.toList) = false) (r r' c : Int) (hr1 : 0 ≤ r) (hr2 : r ≤ 24) (hr1' : 0 ≤ r') (hr2' : r' ≤ 24) (hne : (r != r') = true) (hs : sgn (r - r') = sgn c)
    (HZ : Hid (∀ w, Calls Try.prog 8 #[.agg #[.string k, .int .i64 n, .int .u64 u, .float .f64 f, .string s]] w fun e w' => e = .returned (.bool true) ∧ Below w.heap.size w w'))
    (HZ' : Hid (∀ w, Calls Try.prog 8 #[.agg #[.string k', .int .i64 n', .int .u64 u', .float .f64 f', .string s']] w fun e w' => e = .returned (.bool true) ∧ Below w.heap.size w w'))
    (HC : Hid (∀ w, Calls Try.prog 9 #[.agg #[.string k, .int .i64 n, .int .u64 u, .float .f64 f, .string s]] w fun e w' => e = .returned (.bool true) ∧ Below w.heap.size w w'))
    (HC' : Hid (∀ w, Calls Try.prog 9 #[.agg #[.string k', .int .i64 n', .int .u64 u', .float .f64 f', .string s']] w fun e w' => e = .returned (.bool true) ∧ Below w.heap.size w w'))
    (HR1 : Hid (∀ w, Calls Try.prog 14 #[.agg #[.string k, .int .i64 n, .int .u64 u, .float .f64 f, .string s]] w fun e w' => e = .returned (.int .i64 r) ∧ Below w.heap.size w w'))
    (HR2 : Hid (∀ w, Calls Try.prog 14 #[.agg #[.string k', .int .i64 n', .int .u64 u', .float .f64 f', .string s']] w fun e w' => e = .returned (.int .i64 r') ∧ Below w.heap.size w w'))
    (HIC : Hid (∀ w, Calls Try.prog 11 #[.agg #[.string k, .int .i64 n, .int .u64 u, .float .f64 f, .string s], .agg #[.string k', .int .i64 n', .int .u64 u', .float .f64 f', .string s']] w (ColP c w))) (w : World) :
    Calls Try.prog 5 #[.agg #[.string k, .int .i64 n, .int .u64 u, .float .f64 f, .string s], .agg #[.string k', .int .i64 n', .int .u64 u', .float .f64 f', .string s']] w fun e w' => e = .returned (.bool true) ∧ Below w.heap.size w w' := by
  go_enter Try.func5, Try.ntmps5
  go_wp2_with (first | (go_at_call_of 8 (Value.agg #[.string k, .int .i64 n, .int .u64 u, .float .f64 f, .string s]); refine (HZ.out _).mono ?_; rintro e w1 ⟨rfl, hb1⟩; obtain ⟨hc1, hf1⟩ := bcell hb1; have hz1 : w.heap.size < w1.heap.size := (by have := hb1.size; (try simp at this); omega); have hy1 : w.heap.size + 1 < w1.heap.size := (by have := hb1.size; (try simp at this); omega)) | (go_at_call_of 8 (Value.agg #[.string k', .int .i64 n', .int .u64 u', .float .f64 f', .string s']); refine (HZ'.out _).mono ?_; rintro e w2 ⟨rfl, hb2⟩; obtain ⟨hc2, hf2⟩ := bcell hb2; have hz2 : w.heap.size < w2.heap.size := (by have := hb2.size; (try simp at this); omega); have hy2 : w.heap.size + 1 < w2.heap.size := (by have := hb2.size; (try simp at this); omega)) | (go_at_call_of 9 (Value.agg #[.string k, .int .i64 n, .int .u64 u, .float .f64 f, .string s]); refine (HC.out _).mono ?_; rintro e w4 ⟨rfl, hb4⟩; obtain ⟨hc4, hf4⟩ := bcell hb4; have hz4 : w.heap.size < w4.heap.size := (by have := hb4.size; (try simp at this); omega); have hy4 : w.heap.size + 1 < w4.heap.size := (by have := hb4.size; (try simp at this); omega)) | (go_at_call_of 9 (Value.agg #[.string k', .int .i64 n', .int .u64 u', .float .f64 f', .string s']); refine (HC'.out _).mono ?_; rintro e w5 ⟨rfl, hb5⟩; obtain ⟨hc5, hf5⟩ := bcell hb5; have hz5 : w.heap.size < w5.heap.size := (by have := hb5.size; (try simp at this); omega); have hy5 : w.heap.size + 1 < w5.heap.size := (by have := hb5.size; (try simp at this); omega)))
  have hpc := fun (p : BW w5) => p.cell
  refine wp_region_bw (by kernel_rfl) (by kernel_rfl) ?_
  repeat (quiet_step ((first | (go_at_call_of 14 (Value.agg #[.string k, .int .i64 n, .int .u64 u, .float .f64 f, .string s]); exact bw_of (HR1.out _)) | (go_at_call_of 14 (Value.agg #[.string k', .int .i64 n', .int .u64 u', .float .f64 f', .string s']); exact bw_of (HR2.out _)))))
  refine wpQuiet_nil ?_
  intro _ hw'
  obtain ⟨pq, hw''⟩ := hw'
  subst hw''
  have hbpq := pq.h
  have hzpq := Nat.lt_of_lt_of_le hz5 pq.h.size
  have hypq := Nat.lt_of_lt_of_le hy5 pq.h.size
  go_wp2_with (first | (go_at_call 11; refine (HIC.out _).mono ?_; rintro e w8 ⟨rfl, hb8⟩; obtain ⟨hc8, hf8⟩ := bcell hb8; have hz8 : w.heap.size < w8.heap.size := (by have := hb8.size; (try simp at this); omega); have hy8 : w.heap.size + 1 < w8.heap.size := (by have := hb8.size; (try simp at this); omega)) | (go_at_call_of 13 (#[Value.int .i64 c]); refine (sign_any _ _).mono ?_; rintro e w9 ⟨rfl, rfl⟩) | (go_at_call 13; refine (sign_to (sgn c) _ (by first | exact hs | (rw [wrap64_small (by omega) (by omega)]; exact hs) | (rw [wrapI (by omega) (by omega)]; exact hs)) _).mono ?_; rintro e w9 ⟨rfl, rfl⟩) | (go_at_call 10; refine (collates_any _).mono ?_; rintro e w10 ⟨rfl, hb10⟩))
  go_ret
  exact ⟨rfl, by repeat (first | exact Below.refl _ _ | exact below_al3 _ _ _ _ | exact ((Below.refl _ _).alloc (Nat.le_refl _) _).alloc (by simp) _ | exact (Below.refl _ _).alloc (Nat.le_refl _) _ | refine Below.drew ?_ | refine Below.setCell ?_ (by first | omega | (simp; omega)) _ | refine Below.alloc ?_ (by first | omega | (simp; omega)) _ | refine below_drewN ?_ _ | refine up_below ?_ (Nat.le_refl _) (by assumption))⟩

def Kd.rk : Kd → Int
  | .null | .other => 0 | .bool => 1 | .iFloat => 5 | .f32 => 6 | .f64 => 7 | .iInt => 8 | .iRune => 9 | .iUint => 10
  | .int k => kindRank k | .str => 23 | .blob => 24
theorem rank_sv (K : Kd) (n u : Int) (f : Nat) (s : ByteArray) : (toSV K n u f s).rank = K.rk := by cases K <;> rfl
theorem rk_inj {K L : Kd} (hk : K ≠ .null) (hl : L ≠ .null) (hk' : K ≠ .other) (hl' : L ≠ .other) (h : K.rk = L.rk) : K = L := by
  cases K <;> cases L <;> first | rfl | exact absurd rfl hk | exact absurd rfl hl | exact absurd rfl hk' | exact absurd rfl hl' | exact absurd h (by decide) | (rename_i a b; exact congrArg Kd.int (kindRank_inj h)) | (rename_i a; exact absurd h (by cases a <;> decide))
theorem rk_bounds (K : Kd) : 0 ≤ K.rk ∧ K.rk ≤ 24 := by
  cases K with
  | int q => cases q <;> decide
  | _ => decide
theorem coll_rk {x y : SV} (px : x.plain) (py : y.plain) (h : x.rank ≠ y.rank) : sgn (x.rank - y.rank) = sgn (x.coll y) := by
  rw [coll_lex px py]
  rcases Int.lt_or_gt_of_ne h with h | h
  · rw [lex_lt h]; unfold sgn; rw [if_pos (by omega)]; rfl
  · rw [lex_gt h]; unfold sgn; rw [if_neg (by omega), if_pos (by omega)]; rfl

theorem lawCoR_walk (k : ByteArray) (n u : Int) (f : Nat) (s : ByteArray) (hr : Rng n u f) (k' : ByteArray) (n' u' : Int) (f' : Nat) (s' : ByteArray) (hr' : Rng n' u' f') (w : World) :
    Calls Try.prog 5 #[.agg #[.string k, .int .i64 n, .int .u64 u, .float .f64 f, .string s], .agg #[.string k', .int .i64 n', .int .u64 u', .float .f64 f', .string s']] w fun e w' => e = .returned (.bool true) ∧ Below w.heap.size w w' := by
  have hz := fun w => zzFits1_any k n u f s w
  cases h1 : fitsB k s with
  | false =>
    rw [h1] at hz
    exact lawCoR_long1 k n u f s k' n' u' f' s' hz w
  | true =>
  rw [h1] at hz
  have hz' := fun w => zzFits1_any k' n' u' f' s' w
  cases h1' : fitsB k' s' with
  | false =>
    rw [h1'] at hz'
    exact lawCoR_long2 k n u f s k' n' u' f' s' hz hz' w
  | true =>
  rw [h1'] at hz'
  have hc := fun w => concrete_any k n u f s w
  cases h2 : concB (Kd.of k.toList) n u f s with
  | false =>
    rw [h2] at hc
    exact lawCoR_no1 k n u f s k' n' u' f' s' hz hz' hc w
  | true =>
  rw [h2] at hc
  have hc' := fun w => concrete_any k' n' u' f' s' w
  cases h2' : concB (Kd.of k'.toList) n' u' f' s' with
  | false =>
    rw [h2'] at hc'
    exact lawCoR_no2 k n u f s k' n' u' f' s' hz hz' hc hc' w
  | true =>
  rw [h2'] at hc'
  cases e1 : k.toList.isEmpty with
  | true => exact lawCoR_null1 k n u f s k' n' u' f' s' e1 hz hz' hc hc' w
  | false =>
  cases e2 : k'.toList.isEmpty with
  | true => exact lawCoR_null2 k n u f s k' n' u' f' s' e1 e2 hz hz' hc hc' w
  | false =>
  have rr : ∀ w, Calls Try.prog 14 #[.agg #[.string k, .int .i64 n, .int .u64 u, .float .f64 f, .string s]] w fun e w' => e = .returned (.int .i64 (Kd.of k.toList).rk) ∧ Below w.heap.size w w' := fun w =>
    (implRank_any k n u f s hr (conc_valid h2) w).mono fun e w' ⟨y, hy, he, hb⟩ => by rw [(conc_sv h2).1 y hy, rank_sv] at he; exact ⟨he, hb⟩
  have rr' : ∀ w, Calls Try.prog 14 #[.agg #[.string k', .int .i64 n', .int .u64 u', .float .f64 f', .string s']] w fun e w' => e = .returned (.int .i64 (Kd.of k'.toList).rk) ∧ Below w.heap.size w w' := fun w =>
    (implRank_any k' n' u' f' s' hr' (conc_valid h2') w).mono fun e w' ⟨y, hy, he, hb⟩ => by rw [(conc_sv h2').1 y hy, rank_sv] at he; exact ⟨he, hb⟩
  have ni : ∀ {l : List UInt8}, l.isEmpty = false → Kd.of l ≠ .null := fun h0 h => by
    have := Kd.of_lit _ h (by simp)
    subst this
    exact absurd h0 (by decide)
  have no : ∀ {l : List UInt8} {n u : Int} {f : Nat} {s : ByteArray}, concB (Kd.of l) n u f s = true → Kd.of l ≠ .other := fun h0 h => by
    have := conc_valid h0
    rw [h] at this
    exact absurd this (by simp [validB])
  cases he : (k.toList == k'.toList) with
  | true =>
    rw [← eq_of_beq he] at rr'
    exact lawCoR_same k n u f s k' n' u' f' s' e1 e2 he _ hz hz' hc hc' rr rr' w
  | false =>
    have hne : (Kd.of k.toList).rk ≠ (Kd.of k'.toList).rk := fun h => by
      have := rk_inj (ni e1) (ni e2) (no h2) (no h2') h
      refine beq_eq_false_iff_ne.1 he ?_
      rw [Kd.of_lit _ rfl (no h2), Kd.of_lit k'.toList rfl (no h2'), this]
    have hs := coll_rk (conc_sv h2).2 (conc_sv h2').2 (by rw [rank_sv, rank_sv]; exact hne)
    rw [rank_sv, rank_sv] at hs
    exact lawCoR_diff k n u f s k' n' u' f' s' e1 e2 he _ _ _ (rk_bounds _).1 (rk_bounds _).2 (rk_bounds _).1 (rk_bounds _).2 (bne_iff_ne.2 hne) hs hz hz' hc hc' rr rr' (fun w => implCollate_any k n u f s k' n' u' f' s' hr h2 hr' h2' w) w

end Go.Proofs.Ytiijcmdfbgoafaa
