/-
  The walk of laws.FnCollateFloats: it returns true. PRINTED BY wip/tpl/gen_coc.py.
-/
import Derived.Test.YtiijcmdfbgoafaaLawCoR
import Derived.Deep.RegionWith
namespace Go.Proofs.Ytiijcmdfbgoafaa
open Go.RowKit

set_option maxRecDepth 100000 in
set_option maxHeartbeats 1000000 in
theorem lawCoF_long1 (k : ByteArray) (n u : Int) (f : Nat) (s : ByteArray) (k' : ByteArray) (n' u' : Int) (f' : Nat) (s' : ByteArray)
    (HZ : Hid (∀ w, Calls Try.prog 8 #[.agg #[.string k, .int .i64 n, .int .u64 u, .float .f64 f, .string s]] w fun e w' => e = .returned (.bool false) ∧ Below w.heap.size w w')) (w : World) :
    Calls Try.prog 4 #[.agg #[.string k, .int .i64 n, .int .u64 u, .float .f64 f, .string s], .agg #[.string k', .int .i64 n', .int .u64 u', .float .f64 f', .string s']] w fun e w' => e = .returned (.bool true) ∧ Below w.heap.size w w' := by
  go_enter Try.func4, Try.ntmps4
  go_wp2_with (first | (go_at_call_of 8 (Value.agg #[.string k, .int .i64 n, .int .u64 u, .float .f64 f, .string s]); refine (HZ.out _).mono ?_; rintro e w1 ⟨rfl, hb1⟩; obtain ⟨hc1, hf1⟩ := bcell hb1; have hz1 : w.heap.size < w1.heap.size := (by have := hb1.size; (try simp at this); omega); have hy1 : w.heap.size + 1 < w1.heap.size := (by have := hb1.size; (try simp at this); omega)))
  go_ret
  exact ⟨rfl, by repeat (first | exact Below.refl _ _ | exact below_al3 _ _ _ _ | exact ((Below.refl _ _).alloc (Nat.le_refl _) _).alloc (by simp) _ | exact (Below.refl _ _).alloc (Nat.le_refl _) _ | refine Below.drew ?_ | refine Below.setCell ?_ (by first | omega | (simp; omega)) _ | refine Below.alloc ?_ (by first | omega | (simp; omega)) _ | refine below_drewN ?_ _ | refine up_below ?_ (Nat.le_refl _) (by assumption))⟩

set_option maxRecDepth 100000 in
set_option maxHeartbeats 1000000 in
theorem lawCoF_long2 (k : ByteArray) (n u : Int) (f : Nat) (s : ByteArray) (k' : ByteArray) (n' u' : Int) (f' : Nat) (s' : ByteArray)
    (HZ : Hid (∀ w, Calls Try.prog 8 #[.agg #[.string k, .int .i64 n, .int .u64 u, .float .f64 f, .string s]] w fun e w' => e = .returned (.bool true) ∧ Below w.heap.size w w')) (HZ' : Hid (∀ w, Calls Try.prog 8 #[.agg #[.string k', .int .i64 n', .int .u64 u', .float .f64 f', .string s']] w fun e w' => e = .returned (.bool false) ∧ Below w.heap.size w w')) (w : World) :
    Calls Try.prog 4 #[.agg #[.string k, .int .i64 n, .int .u64 u, .float .f64 f, .string s], .agg #[.string k', .int .i64 n', .int .u64 u', .float .f64 f', .string s']] w fun e w' => e = .returned (.bool true) ∧ Below w.heap.size w w' := by
  go_enter Try.func4, Try.ntmps4
  go_wp2_with (first | (go_at_call_of 8 (Value.agg #[.string k, .int .i64 n, .int .u64 u, .float .f64 f, .string s]); refine (HZ.out _).mono ?_; rintro e w1 ⟨rfl, hb1⟩; obtain ⟨hc1, hf1⟩ := bcell hb1; have hz1 : w.heap.size < w1.heap.size := (by have := hb1.size; (try simp at this); omega); have hy1 : w.heap.size + 1 < w1.heap.size := (by have := hb1.size; (try simp at this); omega)) | (go_at_call_of 8 (Value.agg #[.string k', .int .i64 n', .int .u64 u', .float .f64 f', .string s']); refine (HZ'.out _).mono ?_; rintro e w2 ⟨rfl, hb2⟩; obtain ⟨hc2, hf2⟩ := bcell hb2; have hz2 : w.heap.size < w2.heap.size := (by have := hb2.size; (try simp at this); omega); have hy2 : w.heap.size + 1 < w2.heap.size := (by have := hb2.size; (try simp at this); omega)))
  go_ret
  exact ⟨rfl, by repeat (first | exact Below.refl _ _ | exact below_al3 _ _ _ _ | exact ((Below.refl _ _).alloc (Nat.le_refl _) _).alloc (by simp) _ | exact (Below.refl _ _).alloc (Nat.le_refl _) _ | refine Below.drew ?_ | refine Below.setCell ?_ (by first | omega | (simp; omega)) _ | refine Below.alloc ?_ (by first | omega | (simp; omega)) _ | refine below_drewN ?_ _ | refine up_below ?_ (Nat.le_refl _) (by assumption))⟩

set_option maxRecDepth 100000 in
set_option maxHeartbeats 1000000 in
theorem lawCoF_no1 (k : ByteArray) (n u : Int) (f : Nat) (s : ByteArray) (k' : ByteArray) (n' u' : Int) (f' : Nat) (s' : ByteArray)
    (HZ : Hid (∀ w, Calls Try.prog 8 #[.agg #[.string k, .int .i64 n, .int .u64 u, .float .f64 f, .string s]] w fun e w' => e = .returned (.bool true) ∧ Below w.heap.size w w'))
    (HZ' : Hid (∀ w, Calls Try.prog 8 #[.agg #[.string k', .int .i64 n', .int .u64 u', .float .f64 f', .string s']] w fun e w' => e = .returned (.bool true) ∧ Below w.heap.size w w'))
    (HC : Hid (∀ w, Calls Try.prog 9 #[.agg #[.string k, .int .i64 n, .int .u64 u, .float .f64 f, .string s]] w fun e w' => e = .returned (.bool false) ∧ Below w.heap.size w w')) (w : World) :
    Calls Try.prog 4 #[.agg #[.string k, .int .i64 n, .int .u64 u, .float .f64 f, .string s], .agg #[.string k', .int .i64 n', .int .u64 u', .float .f64 f', .string s']] w fun e w' => e = .returned (.bool true) ∧ Below w.heap.size w w' := by
  go_enter Try.func4, Try.ntmps4
  go_wp2_with (first | (go_at_call_of 8 (Value.agg #[.string k, .int .i64 n, .int .u64 u, .float .f64 f, .string s]); refine (HZ.out _).mono ?_; rintro e w1 ⟨rfl, hb1⟩; obtain ⟨hc1, hf1⟩ := bcell hb1; have hz1 : w.heap.size < w1.heap.size := (by have := hb1.size; (try simp at this); omega); have hy1 : w.heap.size + 1 < w1.heap.size := (by have := hb1.size; (try simp at this); omega)) | (go_at_call_of 8 (Value.agg #[.string k', .int .i64 n', .int .u64 u', .float .f64 f', .string s']); refine (HZ'.out _).mono ?_; rintro e w2 ⟨rfl, hb2⟩; obtain ⟨hc2, hf2⟩ := bcell hb2; have hz2 : w.heap.size < w2.heap.size := (by have := hb2.size; (try simp at this); omega); have hy2 : w.heap.size + 1 < w2.heap.size := (by have := hb2.size; (try simp at this); omega)) | (go_at_call_of 9 (Value.agg #[.string k, .int .i64 n, .int .u64 u, .float .f64 f, .string s]); refine (HC.out _).mono ?_; rintro e w4 ⟨rfl, hb4⟩; obtain ⟨hc4, hf4⟩ := bcell hb4; have hz4 : w.heap.size < w4.heap.size := (by have := hb4.size; (try simp at this); omega); have hy4 : w.heap.size + 1 < w4.heap.size := (by have := hb4.size; (try simp at this); omega)) | (go_at_call 10; refine (collates_any _).mono ?_; rintro e w10 ⟨rfl, hb10⟩))
  go_ret
  exact ⟨rfl, by repeat (first | exact Below.refl _ _ | exact below_al3 _ _ _ _ | exact ((Below.refl _ _).alloc (Nat.le_refl _) _).alloc (by simp) _ | exact (Below.refl _ _).alloc (Nat.le_refl _) _ | refine Below.drew ?_ | refine Below.setCell ?_ (by first | omega | (simp; omega)) _ | refine Below.alloc ?_ (by first | omega | (simp; omega)) _ | refine below_drewN ?_ _ | refine up_below ?_ (Nat.le_refl _) (by assumption))⟩

set_option maxRecDepth 100000 in
set_option maxHeartbeats 1000000 in
theorem lawCoF_no2 (k : ByteArray) (n u : Int) (f : Nat) (s : ByteArray) (k' : ByteArray) (n' u' : Int) (f' : Nat) (s' : ByteArray)
    (HZ : Hid (∀ w, Calls Try.prog 8 #[.agg #[.string k, .int .i64 n, .int .u64 u, .float .f64 f, .string s]] w fun e w' => e = .returned (.bool true) ∧ Below w.heap.size w w'))
    (HZ' : Hid (∀ w, Calls Try.prog 8 #[.agg #[.string k', .int .i64 n', .int .u64 u', .float .f64 f', .string s']] w fun e w' => e = .returned (.bool true) ∧ Below w.heap.size w w'))
    (HC : Hid (∀ w, Calls Try.prog 9 #[.agg #[.string k, .int .i64 n, .int .u64 u, .float .f64 f, .string s]] w fun e w' => e = .returned (.bool true) ∧ Below w.heap.size w w'))
    (HC' : Hid (∀ w, Calls Try.prog 9 #[.agg #[.string k', .int .i64 n', .int .u64 u', .float .f64 f', .string s']] w fun e w' => e = .returned (.bool false) ∧ Below w.heap.size w w')) (w : World) :
    Calls Try.prog 4 #[.agg #[.string k, .int .i64 n, .int .u64 u, .float .f64 f, .string s], .agg #[.string k', .int .i64 n', .int .u64 u', .float .f64 f', .string s']] w fun e w' => e = .returned (.bool true) ∧ Below w.heap.size w w' := by
  go_enter Try.func4, Try.ntmps4
  go_wp2_with (first | (go_at_call_of 8 (Value.agg #[.string k, .int .i64 n, .int .u64 u, .float .f64 f, .string s]); refine (HZ.out _).mono ?_; rintro e w1 ⟨rfl, hb1⟩; obtain ⟨hc1, hf1⟩ := bcell hb1; have hz1 : w.heap.size < w1.heap.size := (by have := hb1.size; (try simp at this); omega); have hy1 : w.heap.size + 1 < w1.heap.size := (by have := hb1.size; (try simp at this); omega)) | (go_at_call_of 8 (Value.agg #[.string k', .int .i64 n', .int .u64 u', .float .f64 f', .string s']); refine (HZ'.out _).mono ?_; rintro e w2 ⟨rfl, hb2⟩; obtain ⟨hc2, hf2⟩ := bcell hb2; have hz2 : w.heap.size < w2.heap.size := (by have := hb2.size; (try simp at this); omega); have hy2 : w.heap.size + 1 < w2.heap.size := (by have := hb2.size; (try simp at this); omega)) | (go_at_call_of 9 (Value.agg #[.string k, .int .i64 n, .int .u64 u, .float .f64 f, .string s]); refine (HC.out _).mono ?_; rintro e w4 ⟨rfl, hb4⟩; obtain ⟨hc4, hf4⟩ := bcell hb4; have hz4 : w.heap.size < w4.heap.size := (by have := hb4.size; (try simp at this); omega); have hy4 : w.heap.size + 1 < w4.heap.size := (by have := hb4.size; (try simp at this); omega)) | (go_at_call_of 9 (Value.agg #[.string k', .int .i64 n', .int .u64 u', .float .f64 f', .string s']); refine (HC'.out _).mono ?_; rintro e w5 ⟨rfl, hb5⟩; obtain ⟨hc5, hf5⟩ := bcell hb5; have hz5 : w.heap.size < w5.heap.size := (by have := hb5.size; (try simp at this); omega); have hy5 : w.heap.size + 1 < w5.heap.size := (by have := hb5.size; (try simp at this); omega)) | (go_at_call 10; refine (collates_any _).mono ?_; rintro e w10 ⟨rfl, hb10⟩))
  go_ret
  exact ⟨rfl, by repeat (first | exact Below.refl _ _ | exact below_al3 _ _ _ _ | exact ((Below.refl _ _).alloc (Nat.le_refl _) _).alloc (by simp) _ | exact (Below.refl _ _).alloc (Nat.le_refl _) _ | refine Below.drew ?_ | refine Below.setCell ?_ (by first | omega | (simp; omega)) _ | refine Below.alloc ?_ (by first | omega | (simp; omega)) _ | refine below_drewN ?_ _ | refine up_below ?_ (Nat.le_refl _) (by assumption))⟩

set_option maxRecDepth 100000 in
set_option maxHeartbeats 1000000 in
theorem lawCoF_not (k : ByteArray) (n u : Int) (f : Nat) (s : ByteArray) (k' : ByteArray) (n' u' : Int) (f' : Nat) (s' : ByteArray)
    (HZ : Hid (∀ w, Calls Try.prog 8 #[.agg #[.string k, .int .i64 n, .int .u64 u, .float .f64 f, .string s]] w fun e w' => e = .returned (.bool true) ∧ Below w.heap.size w w'))
    (HZ' : Hid (∀ w, Calls Try.prog 8 #[.agg #[.string k', .int .i64 n', .int .u64 u', .float .f64 f', .string s']] w fun e w' => e = .returned (.bool true) ∧ Below w.heap.size w w'))
    (HC : Hid (∀ w, Calls Try.prog 9 #[.agg #[.string k, .int .i64 n, .int .u64 u, .float .f64 f, .string s]] w fun e w' => e = .returned (.bool true) ∧ Below w.heap.size w w'))
    (HC' : Hid (∀ w, Calls Try.prog 9 #[.agg #[.string k', .int .i64 n', .int .u64 u', .float .f64 f', .string s']] w fun e w' => e = .returned (.bool true) ∧ Below w.heap.size w w'))
    (HF : Hid (∀ w, Calls Try.prog 12 #[.string k] w fun e w' => e = .returned (.bool false) ∧ w = w')) (w : World) :
    Calls Try.prog 4 #[.agg #[.string k, .int .i64 n, .int .u64 u, .float .f64 f, .string s], .agg #[.string k', .int .i64 n', .int .u64 u', .float .f64 f', .string s']] w fun e w' => e = .returned (.bool true) ∧ Below w.heap.size w w' := by
  go_enter Try.func4, Try.ntmps4
  go_wp2_with (first | (go_at_call_of 8 (Value.agg #[.string k, .int .i64 n, .int .u64 u, .float .f64 f, .string s]); refine (HZ.out _).mono ?_; rintro e w1 ⟨rfl, hb1⟩; obtain ⟨hc1, hf1⟩ := bcell hb1; have hz1 : w.heap.size < w1.heap.size := (by have := hb1.size; (try simp at this); omega); have hy1 : w.heap.size + 1 < w1.heap.size := (by have := hb1.size; (try simp at this); omega)) | (go_at_call_of 8 (Value.agg #[.string k', .int .i64 n', .int .u64 u', .float .f64 f', .string s']); refine (HZ'.out _).mono ?_; rintro e w2 ⟨rfl, hb2⟩; obtain ⟨hc2, hf2⟩ := bcell hb2; have hz2 : w.heap.size < w2.heap.size := (by have := hb2.size; (try simp at this); omega); have hy2 : w.heap.size + 1 < w2.heap.size := (by have := hb2.size; (try simp at this); omega)) | (go_at_call_of 9 (Value.agg #[.string k, .int .i64 n, .int .u64 u, .float .f64 f, .string s]); refine (HC.out _).mono ?_; rintro e w4 ⟨rfl, hb4⟩; obtain ⟨hc4, hf4⟩ := bcell hb4; have hz4 : w.heap.size < w4.heap.size := (by have := hb4.size; (try simp at this); omega); have hy4 : w.heap.size + 1 < w4.heap.size := (by have := hb4.size; (try simp at this); omega)) | (go_at_call_of 9 (Value.agg #[.string k', .int .i64 n', .int .u64 u', .float .f64 f', .string s']); refine (HC'.out _).mono ?_; rintro e w5 ⟨rfl, hb5⟩; obtain ⟨hc5, hf5⟩ := bcell hb5; have hz5 : w.heap.size < w5.heap.size := (by have := hb5.size; (try simp at this); omega); have hy5 : w.heap.size + 1 < w5.heap.size := (by have := hb5.size; (try simp at this); omega)) | (go_at_call 12; refine (HF.out _).mono ?_; rintro e w6 ⟨rfl, rfl⟩) | (go_at_call 10; refine (collates_any _).mono ?_; rintro e w10 ⟨rfl, hb10⟩))
  go_ret
  exact ⟨rfl, by repeat (first | exact Below.refl _ _ | exact below_al3 _ _ _ _ | exact ((Below.refl _ _).alloc (Nat.le_refl _) _).alloc (by simp) _ | exact (Below.refl _ _).alloc (Nat.le_refl _) _ | refine Below.drew ?_ | refine Below.setCell ?_ (by first | omega | (simp; omega)) _ | refine Below.alloc ?_ (by first | omega | (simp; omega)) _ | refine below_drewN ?_ _ | refine up_below ?_ (Nat.le_refl _) (by assumption))⟩

set_option maxRecDepth 100000 in
set_option maxHeartbeats 1000000 in
theorem lawCoF_other (k : ByteArray) (n u : Int) (f : Nat) (s : ByteArray) (k' : ByteArray) (n' u' : Int) (f' : Nat) (s' : ByteArray)
    (he : (k.toList == k'.toList) = false) (HZ : Hid (∀ w, Calls Try.prog 8 #[.agg #[.string k, .int .i64 n, .int .u64 u, .float .f64 f, .string s]] w fun e w' => e = .returned (.bool true) ∧ Below w.heap.size w w'))
    (HZ' : Hid (∀ w, Calls Try.prog 8 #[.agg #[.string k', .int .i64 n', .int .u64 u', .float .f64 f', .string s']] w fun e w' => e = .returned (.bool true) ∧ Below w.heap.size w w'))
    (HC : Hid (∀ w, Calls Try.prog 9 #[.agg #[.string k, .int .i64 n, .int .u64 u, .float .f64 f, .string s]] w fun e w' => e = .returned (.bool true) ∧ Below w.heap.size w w'))
    (HC' : Hid (∀ w, Calls Try.prog 9 #[.agg #[.string k', .int .i64 n', .int .u64 u', .float .f64 f', .string s']] w fun e w' => e = .returned (.bool true) ∧ Below w.heap.size w w'))
    (HF : Hid (∀ w, Calls Try.prog 12 #[.string k] w fun e w' => e = .returned (.bool true) ∧ w = w')) (w : World) :
    Calls Try.prog 4 #[.agg #[.string k, .int .i64 n, .int .u64 u, .float .f64 f, .string s], .agg #[.string k', .int .i64 n', .int .u64 u', .float .f64 f', .string s']] w fun e w' => e = .returned (.bool true) ∧ Below w.heap.size w w' := by
  go_enter Try.func4, Try.ntmps4
  go_wp2_with (first | (go_at_call_of 8 (Value.agg #[.string k, .int .i64 n, .int .u64 u, .float .f64 f, .string s]); refine (HZ.out _).mono ?_; rintro e w1 ⟨rfl, hb1⟩; obtain ⟨hc1, hf1⟩ := bcell hb1; have hz1 : w.heap.size < w1.heap.size := (by have := hb1.size; (try simp at this); omega); have hy1 : w.heap.size + 1 < w1.heap.size := (by have := hb1.size; (try simp at this); omega)) | (go_at_call_of 8 (Value.agg #[.string k', .int .i64 n', .int .u64 u', .float .f64 f', .string s']); refine (HZ'.out _).mono ?_; rintro e w2 ⟨rfl, hb2⟩; obtain ⟨hc2, hf2⟩ := bcell hb2; have hz2 : w.heap.size < w2.heap.size := (by have := hb2.size; (try simp at this); omega); have hy2 : w.heap.size + 1 < w2.heap.size := (by have := hb2.size; (try simp at this); omega)) | (go_at_call_of 9 (Value.agg #[.string k, .int .i64 n, .int .u64 u, .float .f64 f, .string s]); refine (HC.out _).mono ?_; rintro e w4 ⟨rfl, hb4⟩; obtain ⟨hc4, hf4⟩ := bcell hb4; have hz4 : w.heap.size < w4.heap.size := (by have := hb4.size; (try simp at this); omega); have hy4 : w.heap.size + 1 < w4.heap.size := (by have := hb4.size; (try simp at this); omega)) | (go_at_call_of 9 (Value.agg #[.string k', .int .i64 n', .int .u64 u', .float .f64 f', .string s']); refine (HC'.out _).mono ?_; rintro e w5 ⟨rfl, hb5⟩; obtain ⟨hc5, hf5⟩ := bcell hb5; have hz5 : w.heap.size < w5.heap.size := (by have := hb5.size; (try simp at this); omega); have hy5 : w.heap.size + 1 < w5.heap.size := (by have := hb5.size; (try simp at this); omega)) | (go_at_call 12; refine (HF.out _).mono ?_; rintro e w6 ⟨rfl, rfl⟩) | (go_at_call 10; refine (collates_any _).mono ?_; rintro e w10 ⟨rfl, hb10⟩))
  go_ret
  exact ⟨rfl, by repeat (first | exact Below.refl _ _ | exact below_al3 _ _ _ _ | exact ((Below.refl _ _).alloc (Nat.le_refl _) _).alloc (by simp) _ | exact (Below.refl _ _).alloc (Nat.le_refl _) _ | refine Below.drew ?_ | refine Below.setCell ?_ (by first | omega | (simp; omega)) _ | refine Below.alloc ?_ (by first | omega | (simp; omega)) _ | refine below_drewN ?_ _ | refine up_below ?_ (Nat.le_refl _) (by assumption))⟩

set_option maxRecDepth 100000 in
set_option maxHeartbeats 1000000 in
theorem lawCoF_lt (k : ByteArray) (n u : Int) (f : Nat) (s : ByteArray) (k' : ByteArray) (n' u' : Int) (f' : Nat) (s' : ByteArray)
    (he : (k.toList == k'.toList) = true) (c : Int) (h1 : (FloatKind.f64.format.order f f' == some .lt) = true) (hs : sgn c = (-1))
    (HZ : Hid (∀ w, Calls Try.prog 8 #[.agg #[.string k, .int .i64 n, .int .u64 u, .float .f64 f, .string s]] w fun e w' => e = .returned (.bool true) ∧ Below w.heap.size w w'))
    (HZ' : Hid (∀ w, Calls Try.prog 8 #[.agg #[.string k', .int .i64 n', .int .u64 u', .float .f64 f', .string s']] w fun e w' => e = .returned (.bool true) ∧ Below w.heap.size w w'))
    (HC : Hid (∀ w, Calls Try.prog 9 #[.agg #[.string k, .int .i64 n, .int .u64 u, .float .f64 f, .string s]] w fun e w' => e = .returned (.bool true) ∧ Below w.heap.size w w'))
    (HC' : Hid (∀ w, Calls Try.prog 9 #[.agg #[.string k', .int .i64 n', .int .u64 u', .float .f64 f', .string s']] w fun e w' => e = .returned (.bool true) ∧ Below w.heap.size w w'))
    (HF : Hid (∀ w, Calls Try.prog 12 #[.string k] w fun e w' => e = .returned (.bool true) ∧ w = w'))
    (HIC : Hid (∀ w, Calls Try.prog 11 #[.agg #[.string k, .int .i64 n, .int .u64 u, .float .f64 f, .string s], .agg #[.string k', .int .i64 n', .int .u64 u', .float .f64 f', .string s']] w (ColP c w))) (w : World) :
    Calls Try.prog 4 #[.agg #[.string k, .int .i64 n, .int .u64 u, .float .f64 f, .string s], .agg #[.string k', .int .i64 n', .int .u64 u', .float .f64 f', .string s']] w fun e w' => e = .returned (.bool true) ∧ Below w.heap.size w w' := by
  go_enter Try.func4, Try.ntmps4
  go_wp2_with (first | (go_at_call_of 8 (Value.agg #[.string k, .int .i64 n, .int .u64 u, .float .f64 f, .string s]); refine (HZ.out _).mono ?_; rintro e w1 ⟨rfl, hb1⟩; obtain ⟨hc1, hf1⟩ := bcell hb1; have hz1 : w.heap.size < w1.heap.size := (by have := hb1.size; (try simp at this); omega); have hy1 : w.heap.size + 1 < w1.heap.size := (by have := hb1.size; (try simp at this); omega)) | (go_at_call_of 8 (Value.agg #[.string k', .int .i64 n', .int .u64 u', .float .f64 f', .string s']); refine (HZ'.out _).mono ?_; rintro e w2 ⟨rfl, hb2⟩; obtain ⟨hc2, hf2⟩ := bcell hb2; have hz2 : w.heap.size < w2.heap.size := (by have := hb2.size; (try simp at this); omega); have hy2 : w.heap.size + 1 < w2.heap.size := (by have := hb2.size; (try simp at this); omega)) | (go_at_call_of 9 (Value.agg #[.string k, .int .i64 n, .int .u64 u, .float .f64 f, .string s]); refine (HC.out _).mono ?_; rintro e w4 ⟨rfl, hb4⟩; obtain ⟨hc4, hf4⟩ := bcell hb4; have hz4 : w.heap.size < w4.heap.size := (by have := hb4.size; (try simp at this); omega); have hy4 : w.heap.size + 1 < w4.heap.size := (by have := hb4.size; (try simp at this); omega)) | (go_at_call_of 9 (Value.agg #[.string k', .int .i64 n', .int .u64 u', .float .f64 f', .string s']); refine (HC'.out _).mono ?_; rintro e w5 ⟨rfl, hb5⟩; obtain ⟨hc5, hf5⟩ := bcell hb5; have hz5 : w.heap.size < w5.heap.size := (by have := hb5.size; (try simp at this); omega); have hy5 : w.heap.size + 1 < w5.heap.size := (by have := hb5.size; (try simp at this); omega)) | (go_at_call 12; refine (HF.out _).mono ?_; rintro e w6 ⟨rfl, rfl⟩) | (go_at_call 11; refine (HIC.out _).mono ?_; rintro e w8 ⟨rfl, hb8⟩; obtain ⟨hc8, hf8⟩ := bcell hb8; have hz8 : w.heap.size < w8.heap.size := (by have := hb8.size; (try simp at this); omega); have hy8 : w.heap.size + 1 < w8.heap.size := (by have := hb8.size; (try simp at this); omega)) | (go_at_call 13; refine (sign_to (-1) _ hs _).mono ?_; rintro e w9 ⟨rfl, rfl⟩) | (go_at_call 10; refine (collates_any _).mono ?_; rintro e w10 ⟨rfl, hb10⟩))
  go_ret
  exact ⟨rfl, by repeat (first | exact Below.refl _ _ | exact below_al3 _ _ _ _ | exact ((Below.refl _ _).alloc (Nat.le_refl _) _).alloc (by simp) _ | exact (Below.refl _ _).alloc (Nat.le_refl _) _ | refine Below.drew ?_ | refine Below.setCell ?_ (by first | omega | (simp; omega)) _ | refine Below.alloc ?_ (by first | omega | (simp; omega)) _ | refine below_drewN ?_ _ | refine up_below ?_ (Nat.le_refl _) (by assumption))⟩

set_option maxRecDepth 100000 in
set_option maxHeartbeats 1000000 in
theorem lawCoF_gt (k : ByteArray) (n u : Int) (f : Nat) (s : ByteArray) (k' : ByteArray) (n' u' : Int) (f' : Nat) (s' : ByteArray)
    (he : (k.toList == k'.toList) = true) (c : Int) (h1 : (FloatKind.f64.format.order f f' == some .lt) = false) (h2 : (FloatKind.f64.format.order f f' == some .gt) = true) (hs : sgn c = 1)
    (HZ : Hid (∀ w, Calls Try.prog 8 #[.agg #[.string k, .int .i64 n, .int .u64 u, .float .f64 f, .string s]] w fun e w' => e = .returned (.bool true) ∧ Below w.heap.size w w'))
    (HZ' : Hid (∀ w, Calls Try.prog 8 #[.agg #[.string k', .int .i64 n', .int .u64 u', .float .f64 f', .string s']] w fun e w' => e = .returned (.bool true) ∧ Below w.heap.size w w'))
    (HC : Hid (∀ w, Calls Try.prog 9 #[.agg #[.string k, .int .i64 n, .int .u64 u, .float .f64 f, .string s]] w fun e w' => e = .returned (.bool true) ∧ Below w.heap.size w w'))
    (HC' : Hid (∀ w, Calls Try.prog 9 #[.agg #[.string k', .int .i64 n', .int .u64 u', .float .f64 f', .string s']] w fun e w' => e = .returned (.bool true) ∧ Below w.heap.size w w'))
    (HF : Hid (∀ w, Calls Try.prog 12 #[.string k] w fun e w' => e = .returned (.bool true) ∧ w = w'))
    (HIC : Hid (∀ w, Calls Try.prog 11 #[.agg #[.string k, .int .i64 n, .int .u64 u, .float .f64 f, .string s], .agg #[.string k', .int .i64 n', .int .u64 u', .float .f64 f', .string s']] w (ColP c w))) (w : World) :
    Calls Try.prog 4 #[.agg #[.string k, .int .i64 n, .int .u64 u, .float .f64 f, .string s], .agg #[.string k', .int .i64 n', .int .u64 u', .float .f64 f', .string s']] w fun e w' => e = .returned (.bool true) ∧ Below w.heap.size w w' := by
  go_enter Try.func4, Try.ntmps4
  go_wp2_with (first | (go_at_call_of 8 (Value.agg #[.string k, .int .i64 n, .int .u64 u, .float .f64 f, .string s]); refine (HZ.out _).mono ?_; rintro e w1 ⟨rfl, hb1⟩; obtain ⟨hc1, hf1⟩ := bcell hb1; have hz1 : w.heap.size < w1.heap.size := (by have := hb1.size; (try simp at this); omega); have hy1 : w.heap.size + 1 < w1.heap.size := (by have := hb1.size; (try simp at this); omega)) | (go_at_call_of 8 (Value.agg #[.string k', .int .i64 n', .int .u64 u', .float .f64 f', .string s']); refine (HZ'.out _).mono ?_; rintro e w2 ⟨rfl, hb2⟩; obtain ⟨hc2, hf2⟩ := bcell hb2; have hz2 : w.heap.size < w2.heap.size := (by have := hb2.size; (try simp at this); omega); have hy2 : w.heap.size + 1 < w2.heap.size := (by have := hb2.size; (try simp at this); omega)) | (go_at_call_of 9 (Value.agg #[.string k, .int .i64 n, .int .u64 u, .float .f64 f, .string s]); refine (HC.out _).mono ?_; rintro e w4 ⟨rfl, hb4⟩; obtain ⟨hc4, hf4⟩ := bcell hb4; have hz4 : w.heap.size < w4.heap.size := (by have := hb4.size; (try simp at this); omega); have hy4 : w.heap.size + 1 < w4.heap.size := (by have := hb4.size; (try simp at this); omega)) | (go_at_call_of 9 (Value.agg #[.string k', .int .i64 n', .int .u64 u', .float .f64 f', .string s']); refine (HC'.out _).mono ?_; rintro e w5 ⟨rfl, hb5⟩; obtain ⟨hc5, hf5⟩ := bcell hb5; have hz5 : w.heap.size < w5.heap.size := (by have := hb5.size; (try simp at this); omega); have hy5 : w.heap.size + 1 < w5.heap.size := (by have := hb5.size; (try simp at this); omega)) | (go_at_call 12; refine (HF.out _).mono ?_; rintro e w6 ⟨rfl, rfl⟩) | (go_at_call 11; refine (HIC.out _).mono ?_; rintro e w8 ⟨rfl, hb8⟩; obtain ⟨hc8, hf8⟩ := bcell hb8; have hz8 : w.heap.size < w8.heap.size := (by have := hb8.size; (try simp at this); omega); have hy8 : w.heap.size + 1 < w8.heap.size := (by have := hb8.size; (try simp at this); omega)) | (go_at_call 13; refine (sign_to 1 _ hs _).mono ?_; rintro e w9 ⟨rfl, rfl⟩) | (go_at_call 10; refine (collates_any _).mono ?_; rintro e w10 ⟨rfl, hb10⟩))
  go_ret
  exact ⟨rfl, by repeat (first | exact Below.refl _ _ | exact below_al3 _ _ _ _ | exact ((Below.refl _ _).alloc (Nat.le_refl _) _).alloc (by simp) _ | exact (Below.refl _ _).alloc (Nat.le_refl _) _ | refine Below.drew ?_ | refine Below.setCell ?_ (by first | omega | (simp; omega)) _ | refine Below.alloc ?_ (by first | omega | (simp; omega)) _ | refine below_drewN ?_ _ | refine up_below ?_ (Nat.le_refl _) (by assumption))⟩

set_option maxRecDepth 100000 in
set_option maxHeartbeats 1000000 in
theorem lawCoF_eq (k : ByteArray) (n u : Int) (f : Nat) (s : ByteArray) (k' : ByteArray) (n' u' : Int) (f' : Nat) (s' : ByteArray)
    (he : (k.toList == k'.toList) = true) (c : Int) (h1 : (FloatKind.f64.format.order f f' == some .lt) = false) (h2 : (FloatKind.f64.format.order f f' == some .gt) = false) (hs : sgn c = 0)
    (HZ : Hid (∀ w, Calls Try.prog 8 #[.agg #[.string k, .int .i64 n, .int .u64 u, .float .f64 f, .string s]] w fun e w' => e = .returned (.bool true) ∧ Below w.heap.size w w'))
    (HZ' : Hid (∀ w, Calls Try.prog 8 #[.agg #[.string k', .int .i64 n', .int .u64 u', .float .f64 f', .string s']] w fun e w' => e = .returned (.bool true) ∧ Below w.heap.size w w'))
    (HC : Hid (∀ w, Calls Try.prog 9 #[.agg #[.string k, .int .i64 n, .int .u64 u, .float .f64 f, .string s]] w fun e w' => e = .returned (.bool true) ∧ Below w.heap.size w w'))
    (HC' : Hid (∀ w, Calls Try.prog 9 #[.agg #[.string k', .int .i64 n', .int .u64 u', .float .f64 f', .string s']] w fun e w' => e = .returned (.bool true) ∧ Below w.heap.size w w'))
    (HF : Hid (∀ w, Calls Try.prog 12 #[.string k] w fun e w' => e = .returned (.bool true) ∧ w = w'))
    (HIC : Hid (∀ w, Calls Try.prog 11 #[.agg #[.string k, .int .i64 n, .int .u64 u, .float .f64 f, .string s], .agg #[.string k', .int .i64 n', .int .u64 u', .float .f64 f', .string s']] w (ColP c w))) (w : World) :
    Calls Try.prog 4 #[.agg #[.string k, .int .i64 n, .int .u64 u, .float .f64 f, .string s], .agg #[.string k', .int .i64 n', .int .u64 u', .float .f64 f', .string s']] w fun e w' => e = .returned (.bool true) ∧ Below w.heap.size w w' := by
  go_enter Try.func4, Try.ntmps4
  go_wp2_with (first | (go_at_call_of 8 (Value.agg #[.string k, .int .i64 n, .int .u64 u, .float .f64 f, .string s]); refine (HZ.out _).mono ?_; rintro e w1 ⟨rfl, hb1⟩; obtain ⟨hc1, hf1⟩ := bcell hb1; have hz1 : w.heap.size < w1.heap.size := (by have := hb1.size; (try simp at this); omega); have hy1 : w.heap.size + 1 < w1.heap.size := (by have := hb1.size; (try simp at this); omega)) | (go_at_call_of 8 (Value.agg #[.string k', .int .i64 n', .int .u64 u', .float .f64 f', .string s']); refine (HZ'.out _).mono ?_; rintro e w2 ⟨rfl, hb2⟩; obtain ⟨hc2, hf2⟩ := bcell hb2; have hz2 : w.heap.size < w2.heap.size := (by have := hb2.size; (try simp at this); omega); have hy2 : w.heap.size + 1 < w2.heap.size := (by have := hb2.size; (try simp at this); omega)) | (go_at_call_of 9 (Value.agg #[.string k, .int .i64 n, .int .u64 u, .float .f64 f, .string s]); refine (HC.out _).mono ?_; rintro e w4 ⟨rfl, hb4⟩; obtain ⟨hc4, hf4⟩ := bcell hb4; have hz4 : w.heap.size < w4.heap.size := (by have := hb4.size; (try simp at this); omega); have hy4 : w.heap.size + 1 < w4.heap.size := (by have := hb4.size; (try simp at this); omega)) | (go_at_call_of 9 (Value.agg #[.string k', .int .i64 n', .int .u64 u', .float .f64 f', .string s']); refine (HC'.out _).mono ?_; rintro e w5 ⟨rfl, hb5⟩; obtain ⟨hc5, hf5⟩ := bcell hb5; have hz5 : w.heap.size < w5.heap.size := (by have := hb5.size; (try simp at this); omega); have hy5 : w.heap.size + 1 < w5.heap.size := (by have := hb5.size; (try simp at this); omega)) | (go_at_call 12; refine (HF.out _).mono ?_; rintro e w6 ⟨rfl, rfl⟩) | (go_at_call 11; refine (HIC.out _).mono ?_; rintro e w8 ⟨rfl, hb8⟩; obtain ⟨hc8, hf8⟩ := bcell hb8; have hz8 : w.heap.size < w8.heap.size := (by have := hb8.size; (try simp at this); omega); have hy8 : w.heap.size + 1 < w8.heap.size := (by have := hb8.size; (try simp at this); omega)) | (go_at_call 13; refine (sign_to 0 _ hs _).mono ?_; rintro e w9 ⟨rfl, rfl⟩) | (go_at_call 10; refine (collates_any _).mono ?_; rintro e w10 ⟨rfl, hb10⟩))
  go_ret
  exact ⟨rfl, by repeat (first | exact Below.refl _ _ | exact below_al3 _ _ _ _ | exact ((Below.refl _ _).alloc (Nat.le_refl _) _).alloc (by simp) _ | exact (Below.refl _ _).alloc (Nat.le_refl _) _ | refine Below.drew ?_ | refine Below.setCell ?_ (by first | omega | (simp; omega)) _ | refine Below.alloc ?_ (by first | omega | (simp; omega)) _ | refine below_drewN ?_ _ | refine up_below ?_ (Nat.le_refl _) (by assumption))⟩

theorem order_up {x y : Nat} (hx : (Ieee.single.read x).isNaN = false) (hy : (Ieee.single.read y).isNaN = false) : Ieee.double.order (Flt.up x) (Flt.up y) = Ieee.single.order x y := by
  rw [Flt.order64, Flt.order32, (Flt.up_key hx).1, (Flt.up_key hy).1]

theorem fl_coll {K : Kd} {n u : Int} {f : Nat} {s : ByteArray} {n' u' : Int} {f' : Nat} {s' : ByteArray} (h : concB K n u f s = true) (h' : concB K n' u' f' s' = true) (hf : K.flt = true) :
    (toSV K n u f s).coll (toSV K n' u' f' s') = three (Ieee.double.order f f' == some .lt) (Ieee.double.order f f' == some .eq) := by
  unfold concB at h h'
  simp only [Bool.and_eq_true, Bool.not_eq_true'] at h h'
  obtain ⟨⟨v, i⟩, hn⟩ := h
  obtain ⟨⟨v', _⟩, hn'⟩ := h'
  cases K with
  | f64 => rfl
  | f32 =>
    have hd : (Ieee.double.read f).isNaN = false := by rw [numB_nan] at hn; simpa using hn
    have hd' : (Ieee.double.read f').isNaN = false := by rw [numB_nan] at hn'; simpa using hn'
    simp only [validB, single64, hn, hn', Bool.and_eq_true, beq_iff_eq, Bool.not_true, Bool.false_or] at v v'
    have e := order_up (down_num hd) (down_num hd')
    rw [v.2.1, v'.2.1] at e
    rw [e]
    rfl
  | iFloat => exact absurd i (by decide)
  | _ => exact absurd hf (by simp [Kd.flt])

theorem order_num {f f' : Nat} (h : numB f = true) (h' : numB f' = true) : ∃ o, Ieee.double.order f f' = some o := by
  have e := key64_some (x := f) (by simpa [numB] using h)
  have e' := key64_some (x := f') (by simpa [numB] using h')
  rw [Flt.order64, e, e']
  exact ⟨_, rfl⟩

theorem lawCoF_walk (k : ByteArray) (n u : Int) (f : Nat) (s : ByteArray) (hr : Rng n u f) (k' : ByteArray) (n' u' : Int) (f' : Nat) (s' : ByteArray) (hr' : Rng n' u' f') (w : World) :
    Calls Try.prog 4 #[.agg #[.string k, .int .i64 n, .int .u64 u, .float .f64 f, .string s], .agg #[.string k', .int .i64 n', .int .u64 u', .float .f64 f', .string s']] w fun e w' => e = .returned (.bool true) ∧ Below w.heap.size w w' := by
  have hz := fun w => zzFits1_any k n u f s w
  cases h1 : fitsB k s with
  | false =>
    rw [h1] at hz
    exact lawCoF_long1 k n u f s k' n' u' f' s' hz w
  | true =>
  rw [h1] at hz
  have hz' := fun w => zzFits1_any k' n' u' f' s' w
  cases h1' : fitsB k' s' with
  | false =>
    rw [h1'] at hz'
    exact lawCoF_long2 k n u f s k' n' u' f' s' hz hz' w
  | true =>
  rw [h1'] at hz'
  have hc := fun w => concrete_any k n u f s w
  cases h2 : concB (Kd.of k.toList) n u f s with
  | false =>
    rw [h2] at hc
    exact lawCoF_no1 k n u f s k' n' u' f' s' hz hz' hc w
  | true =>
  rw [h2] at hc
  have hc' := fun w => concrete_any k' n' u' f' s' w
  cases h2' : concB (Kd.of k'.toList) n' u' f' s' with
  | false =>
    rw [h2'] at hc'
    exact lawCoF_no2 k n u f s k' n' u' f' s' hz hz' hc hc' w
  | true =>
  rw [h2'] at hc'
  have hf := fun w => isFloat_any k w
  cases h3 : (Kd.of k.toList).flt with
  | false =>
    rw [h3] at hf
    exact lawCoF_not k n u f s k' n' u' f' s' hz hz' hc hc' hf w
  | true =>
  rw [h3] at hf
  cases he : (k.toList == k'.toList) with
  | false => exact lawCoF_other k n u f s k' n' u' f' s' he hz hz' hc hc' hf w
  | true =>
  have hi := fun w => implCollate_any k n u f s k' n' u' f' s' hr h2 hr' h2' w
  have h2n := h2'
  rw [← eq_of_beq he] at h2n
  have hq := fl_coll h2 h2n h3
  rw [eq_of_beq he] at hq
  have ek : Kd.of k.toList = Kd.of k'.toList := by rw [eq_of_beq he]
  rw [ek, hq] at hi
  have hn : numB f = true := by unfold concB at h2; simp only [Bool.and_eq_true] at h2; exact h2.2
  have hn' : numB f' = true := by unfold concB at h2'; simp only [Bool.and_eq_true] at h2'; exact h2'.2
  obtain ⟨od, ho⟩ := order_num hn hn'
  rw [ho] at hi
  have ho' : FloatKind.f64.format.order f f' = some od := ho
  cases od with
  | lt => exact lawCoF_lt k n u f s k' n' u' f' s' he _ (by rw [ho']; rfl) (by decide) hz hz' hc hc' hf hi w
  | eq => exact lawCoF_eq k n u f s k' n' u' f' s' he _ (by rw [ho']; rfl) (by rw [ho']; rfl) (by decide) hz hz' hc hc' hf hi w
  | gt => exact lawCoF_gt k n u f s k' n' u' f' s' he _ (by rw [ho']; rfl) (by rw [ho']; rfl) (by decide) hz hz' hc hc' hf hi w

end Go.Proofs.Ytiijcmdfbgoafaa
