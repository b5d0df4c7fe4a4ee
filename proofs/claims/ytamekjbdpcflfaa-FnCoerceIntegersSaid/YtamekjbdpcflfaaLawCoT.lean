/-
  laws.coerces; the walk of laws.FnCoerceTypes: it returns true. PRINTED BY wip/tpl/gen_cot.py.
-/
import Derived.Test.YtamekjbdpcflfaaCoe4
import Derived.Test.YtamekjbdpcflfaaBack
import Derived.Test.YtamekjbdpcflfaaLawFit
namespace Go.Proofs.Ytamekjbdpcflfaa
open Go.RowKit

theorem coerce_12 (w : World) : Calls Try.prog 23 #[.agg #[.string idealIntS, .int .i64 1, .int .u64 0, .float .f64 0, .string empS], .agg #[.string int8S, .int .i64 2, .int .u64 0, .float .f64 0, .string empS]] w fun e w' => e = .returned (.tuple #[.agg #[.string int8S, .int .i64 1, .int .u64 0, .float .f64 0, .string empS], .agg #[.string int8S, .int .i64 2, .int .u64 0, .float .f64 0, .string empS]]) ∧ Below w.heap.size w w' := by
  have hk : Kd.of idealIntS.toList = .iInt := by decide +kernel
  have hk' : Kd.of int8S.toList = .int .i8 := by decide +kernel
  refine (implCoerce_any idealIntS 1 0 0 empS int8S 2 0 0 empS ⟨by omega, by omega, by omega, by omega, by omega⟩ (by decide +kernel) ⟨by omega, by omega, by omega, by omega, by omega⟩ (by decide +kernel) w).mono fun e w' ⟨x, y, a, b, g, h, hx, hy, ht, hg, hh, he, hb⟩ => ?_
  rw [hk] at hx
  rw [hk'] at hy
  unfold SVof at hx hy
  rw [if_neg (fun h => by cases h.1)] at hx hy
  subst hx hy
  obtain rfl := ht.ia 1 .i8 2 rfl rfl (by decide)
  obtain rfl := ht.kb rfl
  unfold FOut at hg hh
  rw [if_neg (by decide)] at hg hh
  subst hg hh
  exact ⟨he, hb⟩

set_option maxRecDepth 100000 in
set_option maxHeartbeats 1000000 in
theorem coerces_any (w : World) : Calls Try.prog 22 #[] w fun e w' => e = .returned (.bool true) ∧ Below w.heap.size w w' := by
  have h8 : (int8S.toList == [105, 110, 116, 56]) = true := by decide +kernel
  go_enter Try.func22, Try.ntmps22
  go_wp2_with (go_at_call 23; refine (coerce_12 _).mono ?_; rintro e w1 ⟨rfl, hb1⟩)
  go_ret
  exact ⟨rfl, (hb1.alloc hb1.size _).alloc (by have := hb1.size; simp; omega) _⟩

set_option maxRecDepth 100000 in
set_option maxHeartbeats 1000000 in
theorem lawCoT_long1 (k : ByteArray) (n u : Int) (f : Nat) (s : ByteArray) (k' : ByteArray) (n' u' : Int) (f' : Nat) (s' : ByteArray)
    (HZ : Hid (∀ w, Calls Try.prog 9 #[.agg #[.string k, .int .i64 n, .int .u64 u, .float .f64 f, .string s]] w fun e w' => e = .returned (.bool false) ∧ Below w.heap.size w w')) (w : World) :
    Calls Try.prog 7 #[.agg #[.string k, .int .i64 n, .int .u64 u, .float .f64 f, .string s], .agg #[.string k', .int .i64 n', .int .u64 u', .float .f64 f', .string s']] w fun e w' => e = .returned (.bool true) ∧ Below w.heap.size w w' := by
  go_enter Try.func7, Try.ntmps7
  go_wp2_with (first | (go_at_call_of 9 (Value.agg #[.string k, .int .i64 n, .int .u64 u, .float .f64 f, .string s]); refine (HZ.out _).mono ?_; rintro e w1 ⟨rfl, hb1⟩; obtain ⟨hc1, hf1⟩ := bcell hb1; have hz1 : w.heap.size < w1.heap.size := (by have := hb1.size; (try simp at this); omega); have hy1 : w.heap.size + 1 < w1.heap.size := (by have := hb1.size; (try simp at this); omega)))
  go_ret
  exact ⟨rfl, by repeat (first | exact Below.refl _ _ | exact ((Below.refl _ _).alloc (Nat.le_refl _) _).alloc (by simp) _ | exact (Below.refl _ _).alloc (Nat.le_refl _) _ | refine Below.drew ?_ | refine Below.setCell ?_ (by first | omega | (simp; omega)) _ | refine Below.alloc ?_ (by first | omega | (simp; omega)) _ | refine below_drewN ?_ _ | refine up_below ?_ (Nat.le_refl _) (by assumption))⟩

set_option maxRecDepth 100000 in
set_option maxHeartbeats 1000000 in
theorem lawCoT_long2 (k : ByteArray) (n u : Int) (f : Nat) (s : ByteArray) (k' : ByteArray) (n' u' : Int) (f' : Nat) (s' : ByteArray)
    (HZ : Hid (∀ w, Calls Try.prog 9 #[.agg #[.string k, .int .i64 n, .int .u64 u, .float .f64 f, .string s]] w fun e w' => e = .returned (.bool true) ∧ Below w.heap.size w w')) (HZ' : Hid (∀ w, Calls Try.prog 9 #[.agg #[.string k', .int .i64 n', .int .u64 u', .float .f64 f', .string s']] w fun e w' => e = .returned (.bool false) ∧ Below w.heap.size w w')) (w : World) :
    Calls Try.prog 7 #[.agg #[.string k, .int .i64 n, .int .u64 u, .float .f64 f, .string s], .agg #[.string k', .int .i64 n', .int .u64 u', .float .f64 f', .string s']] w fun e w' => e = .returned (.bool true) ∧ Below w.heap.size w w' := by
  go_enter Try.func7, Try.ntmps7
  go_wp2_with (first | (go_at_call_of 9 (Value.agg #[.string k, .int .i64 n, .int .u64 u, .float .f64 f, .string s]); refine (HZ.out _).mono ?_; rintro e w1 ⟨rfl, hb1⟩; obtain ⟨hc1, hf1⟩ := bcell hb1; have hz1 : w.heap.size < w1.heap.size := (by have := hb1.size; (try simp at this); omega); have hy1 : w.heap.size + 1 < w1.heap.size := (by have := hb1.size; (try simp at this); omega)) | (go_at_call_of 9 (Value.agg #[.string k', .int .i64 n', .int .u64 u', .float .f64 f', .string s']); refine (HZ'.out _).mono ?_; rintro e w2 ⟨rfl, hb2⟩; obtain ⟨hc2, hf2⟩ := bcell hb2; have hz2 : w.heap.size < w2.heap.size := (by have := hb2.size; (try simp at this); omega); have hy2 : w.heap.size + 1 < w2.heap.size := (by have := hb2.size; (try simp at this); omega)))
  go_ret
  exact ⟨rfl, by repeat (first | exact Below.refl _ _ | exact ((Below.refl _ _).alloc (Nat.le_refl _) _).alloc (by simp) _ | exact (Below.refl _ _).alloc (Nat.le_refl _) _ | refine Below.drew ?_ | refine Below.setCell ?_ (by first | omega | (simp; omega)) _ | refine Below.alloc ?_ (by first | omega | (simp; omega)) _ | refine below_drewN ?_ _ | refine up_below ?_ (Nat.le_refl _) (by assumption))⟩

set_option maxRecDepth 100000 in
set_option maxHeartbeats 1000000 in
theorem lawCoT_inv1 (k : ByteArray) (n u : Int) (f : Nat) (s : ByteArray) (k' : ByteArray) (n' u' : Int) (f' : Nat) (s' : ByteArray)
    (HZ : Hid (∀ w, Calls Try.prog 9 #[.agg #[.string k, .int .i64 n, .int .u64 u, .float .f64 f, .string s]] w fun e w' => e = .returned (.bool true) ∧ Below w.heap.size w w'))
    (HZ' : Hid (∀ w, Calls Try.prog 9 #[.agg #[.string k', .int .i64 n', .int .u64 u', .float .f64 f', .string s']] w fun e w' => e = .returned (.bool true) ∧ Below w.heap.size w w'))
    (HV : Hid (∀ w, Calls Try.prog 10 #[.agg #[.string k, .int .i64 n, .int .u64 u, .float .f64 f, .string s]] w fun e w' => e = .returned (.bool false) ∧ Below w.heap.size w w')) (w : World) :
    Calls Try.prog 7 #[.agg #[.string k, .int .i64 n, .int .u64 u, .float .f64 f, .string s], .agg #[.string k', .int .i64 n', .int .u64 u', .float .f64 f', .string s']] w fun e w' => e = .returned (.bool true) ∧ Below w.heap.size w w' := by
  go_enter Try.func7, Try.ntmps7
  go_wp2_with (first | (go_at_call_of 9 (Value.agg #[.string k, .int .i64 n, .int .u64 u, .float .f64 f, .string s]); refine (HZ.out _).mono ?_; rintro e w1 ⟨rfl, hb1⟩; obtain ⟨hc1, hf1⟩ := bcell hb1; have hz1 : w.heap.size < w1.heap.size := (by have := hb1.size; (try simp at this); omega); have hy1 : w.heap.size + 1 < w1.heap.size := (by have := hb1.size; (try simp at this); omega)) | (go_at_call_of 9 (Value.agg #[.string k', .int .i64 n', .int .u64 u', .float .f64 f', .string s']); refine (HZ'.out _).mono ?_; rintro e w2 ⟨rfl, hb2⟩; obtain ⟨hc2, hf2⟩ := bcell hb2; have hz2 : w.heap.size < w2.heap.size := (by have := hb2.size; (try simp at this); omega); have hy2 : w.heap.size + 1 < w2.heap.size := (by have := hb2.size; (try simp at this); omega)) | (go_at_call_of 10 (Value.agg #[.string k, .int .i64 n, .int .u64 u, .float .f64 f, .string s]); refine (HV.out _).mono ?_; rintro e w3 ⟨rfl, hb3⟩; obtain ⟨hc3, hf3⟩ := bcell hb3; have hz3 : w.heap.size < w3.heap.size := (by have := hb3.size; (try simp at this); omega); have hy3 : w.heap.size + 1 < w3.heap.size := (by have := hb3.size; (try simp at this); omega)) | (go_at_call 22; refine (coerces_any _).mono ?_; rintro e w5 ⟨rfl, hb5⟩; obtain ⟨hc5, hf5⟩ := bcell hb5; have hz5 : w.heap.size < w5.heap.size := (by have := hb5.size; (try simp at this); omega); have hy5 : w.heap.size + 1 < w5.heap.size := (by have := hb5.size; (try simp at this); omega)))
  go_ret
  exact ⟨rfl, by repeat (first | exact Below.refl _ _ | exact ((Below.refl _ _).alloc (Nat.le_refl _) _).alloc (by simp) _ | exact (Below.refl _ _).alloc (Nat.le_refl _) _ | refine Below.drew ?_ | refine Below.setCell ?_ (by first | omega | (simp; omega)) _ | refine Below.alloc ?_ (by first | omega | (simp; omega)) _ | refine below_drewN ?_ _ | refine up_below ?_ (Nat.le_refl _) (by assumption))⟩

set_option maxRecDepth 100000 in
set_option maxHeartbeats 1000000 in
theorem lawCoT_inv2 (k : ByteArray) (n u : Int) (f : Nat) (s : ByteArray) (k' : ByteArray) (n' u' : Int) (f' : Nat) (s' : ByteArray)
    (HZ : Hid (∀ w, Calls Try.prog 9 #[.agg #[.string k, .int .i64 n, .int .u64 u, .float .f64 f, .string s]] w fun e w' => e = .returned (.bool true) ∧ Below w.heap.size w w'))
    (HZ' : Hid (∀ w, Calls Try.prog 9 #[.agg #[.string k', .int .i64 n', .int .u64 u', .float .f64 f', .string s']] w fun e w' => e = .returned (.bool true) ∧ Below w.heap.size w w'))
    (HV : Hid (∀ w, Calls Try.prog 10 #[.agg #[.string k, .int .i64 n, .int .u64 u, .float .f64 f, .string s]] w fun e w' => e = .returned (.bool true) ∧ Below w.heap.size w w'))
    (HV' : Hid (∀ w, Calls Try.prog 10 #[.agg #[.string k', .int .i64 n', .int .u64 u', .float .f64 f', .string s']] w fun e w' => e = .returned (.bool false) ∧ Below w.heap.size w w')) (w : World) :
    Calls Try.prog 7 #[.agg #[.string k, .int .i64 n, .int .u64 u, .float .f64 f, .string s], .agg #[.string k', .int .i64 n', .int .u64 u', .float .f64 f', .string s']] w fun e w' => e = .returned (.bool true) ∧ Below w.heap.size w w' := by
  go_enter Try.func7, Try.ntmps7
  go_wp2_with (first | (go_at_call_of 9 (Value.agg #[.string k, .int .i64 n, .int .u64 u, .float .f64 f, .string s]); refine (HZ.out _).mono ?_; rintro e w1 ⟨rfl, hb1⟩; obtain ⟨hc1, hf1⟩ := bcell hb1; have hz1 : w.heap.size < w1.heap.size := (by have := hb1.size; (try simp at this); omega); have hy1 : w.heap.size + 1 < w1.heap.size := (by have := hb1.size; (try simp at this); omega)) | (go_at_call_of 9 (Value.agg #[.string k', .int .i64 n', .int .u64 u', .float .f64 f', .string s']); refine (HZ'.out _).mono ?_; rintro e w2 ⟨rfl, hb2⟩; obtain ⟨hc2, hf2⟩ := bcell hb2; have hz2 : w.heap.size < w2.heap.size := (by have := hb2.size; (try simp at this); omega); have hy2 : w.heap.size + 1 < w2.heap.size := (by have := hb2.size; (try simp at this); omega)) | (go_at_call_of 10 (Value.agg #[.string k, .int .i64 n, .int .u64 u, .float .f64 f, .string s]); refine (HV.out _).mono ?_; rintro e w3 ⟨rfl, hb3⟩; obtain ⟨hc3, hf3⟩ := bcell hb3; have hz3 : w.heap.size < w3.heap.size := (by have := hb3.size; (try simp at this); omega); have hy3 : w.heap.size + 1 < w3.heap.size := (by have := hb3.size; (try simp at this); omega)) | (go_at_call_of 10 (Value.agg #[.string k', .int .i64 n', .int .u64 u', .float .f64 f', .string s']); refine (HV'.out _).mono ?_; rintro e w4 ⟨rfl, hb4⟩; obtain ⟨hc4, hf4⟩ := bcell hb4; have hz4 : w.heap.size < w4.heap.size := (by have := hb4.size; (try simp at this); omega); have hy4 : w.heap.size + 1 < w4.heap.size := (by have := hb4.size; (try simp at this); omega)) | (go_at_call 22; refine (coerces_any _).mono ?_; rintro e w5 ⟨rfl, hb5⟩; obtain ⟨hc5, hf5⟩ := bcell hb5; have hz5 : w.heap.size < w5.heap.size := (by have := hb5.size; (try simp at this); omega); have hy5 : w.heap.size + 1 < w5.heap.size := (by have := hb5.size; (try simp at this); omega)))
  go_ret
  exact ⟨rfl, by repeat (first | exact Below.refl _ _ | exact ((Below.refl _ _).alloc (Nat.le_refl _) _).alloc (by simp) _ | exact (Below.refl _ _).alloc (Nat.le_refl _) _ | refine Below.drew ?_ | refine Below.setCell ?_ (by first | omega | (simp; omega)) _ | refine Below.alloc ?_ (by first | omega | (simp; omega)) _ | refine below_drewN ?_ _ | refine up_below ?_ (Nat.le_refl _) (by assumption))⟩

theorem same_yes {k n u f s k' n' u' f' s'} (h : sameB k n u f s k' n' u' f' s' = true) (w : World) : Calls Try.prog 17 #[.agg #[.string k, .int .i64 n, .int .u64 u, .float .f64 f, .string s], .agg #[.string k', .int .i64 n', .int .u64 u', .float .f64 f', .string s']] w fun e w' => e = .returned (.bool true) ∧ Below w.heap.size w w' := by
  have hs := same_any k n u f s k' n' u' f' s' w
  rw [h] at hs
  exact hs

set_option maxRecDepth 100000 in
set_option maxHeartbeats 1000000 in
theorem lawCoT_main_true_true (k : ByteArray) (n u : Int) (f : Nat) (s : ByteArray) (k' : ByteArray) (n' u' : Int) (f' : Nat) (s' : ByteArray)
    (HZ : Hid (∀ w, Calls Try.prog 9 #[.agg #[.string k, .int .i64 n, .int .u64 u, .float .f64 f, .string s]] w fun e w' => e = .returned (.bool true) ∧ Below w.heap.size w w'))
    (HZ' : Hid (∀ w, Calls Try.prog 9 #[.agg #[.string k', .int .i64 n', .int .u64 u', .float .f64 f', .string s']] w fun e w' => e = .returned (.bool true) ∧ Below w.heap.size w w'))
    (HV : Hid (∀ w, Calls Try.prog 10 #[.agg #[.string k, .int .i64 n, .int .u64 u, .float .f64 f, .string s]] w fun e w' => e = .returned (.bool true) ∧ Below w.heap.size w w'))
    (HV' : Hid (∀ w, Calls Try.prog 10 #[.agg #[.string k', .int .i64 n', .int .u64 u', .float .f64 f', .string s']] w fun e w' => e = .returned (.bool true) ∧ Below w.heap.size w w'))
    (HI : Hid (∀ w, Calls Try.prog 15 #[.string k] w fun e w' => e = .returned (.bool true) ∧ w = w'))
    (HI' : Hid (∀ w, Calls Try.prog 15 #[.string k'] w fun e w' => e = .returned (.bool true) ∧ w = w'))
    (HC : Hid (∀ w, Calls Try.prog 23 #[.agg #[.string k, .int .i64 n, .int .u64 u, .float .f64 f, .string s], .agg #[.string k', .int .i64 n', .int .u64 u', .float .f64 f', .string s']] w fun e w' => ∃ k1 n1 u1 f1 s1 k2 n2 u2 f2 s2, e = .returned (.tuple #[.agg #[.string k1, .int .i64 n1, .int .u64 u1, .float .f64 f1, .string s1], .agg #[.string k2, .int .i64 n2, .int .u64 u2, .float .f64 f2, .string s2]]) ∧ (true = false → sameB k1 n1 u1 f1 s1 k n u f s = true) ∧ (true = false → sameB k2 n2 u2 f2 s2 k' n' u' f' s' = true) ∧ Below w.heap.size w w')) (w : World) :
    Calls Try.prog 7 #[.agg #[.string k, .int .i64 n, .int .u64 u, .float .f64 f, .string s], .agg #[.string k', .int .i64 n', .int .u64 u', .float .f64 f', .string s']] w fun e w' => e = .returned (.bool true) ∧ Below w.heap.size w w' := by
  go_enter Try.func7, Try.ntmps7
  go_wp2_with (first | (go_at_call_of 9 (Value.agg #[.string k, .int .i64 n, .int .u64 u, .float .f64 f, .string s]); refine (HZ.out _).mono ?_; rintro e w1 ⟨rfl, hb1⟩; obtain ⟨hc1, hf1⟩ := bcell hb1; have hz1 : w.heap.size < w1.heap.size := (by have := hb1.size; (try simp at this); omega); have hy1 : w.heap.size + 1 < w1.heap.size := (by have := hb1.size; (try simp at this); omega)) | (go_at_call_of 9 (Value.agg #[.string k', .int .i64 n', .int .u64 u', .float .f64 f', .string s']); refine (HZ'.out _).mono ?_; rintro e w2 ⟨rfl, hb2⟩; obtain ⟨hc2, hf2⟩ := bcell hb2; have hz2 : w.heap.size < w2.heap.size := (by have := hb2.size; (try simp at this); omega); have hy2 : w.heap.size + 1 < w2.heap.size := (by have := hb2.size; (try simp at this); omega)) | (go_at_call_of 10 (Value.agg #[.string k, .int .i64 n, .int .u64 u, .float .f64 f, .string s]); refine (HV.out _).mono ?_; rintro e w3 ⟨rfl, hb3⟩; obtain ⟨hc3, hf3⟩ := bcell hb3; have hz3 : w.heap.size < w3.heap.size := (by have := hb3.size; (try simp at this); omega); have hy3 : w.heap.size + 1 < w3.heap.size := (by have := hb3.size; (try simp at this); omega)) | (go_at_call_of 10 (Value.agg #[.string k', .int .i64 n', .int .u64 u', .float .f64 f', .string s']); refine (HV'.out _).mono ?_; rintro e w4 ⟨rfl, hb4⟩; obtain ⟨hc4, hf4⟩ := bcell hb4; have hz4 : w.heap.size < w4.heap.size := (by have := hb4.size; (try simp at this); omega); have hy4 : w.heap.size + 1 < w4.heap.size := (by have := hb4.size; (try simp at this); omega)) | (go_at_call 23; refine (HC.out _).mono ?_; rintro e w8 ⟨k1, n1, u1, f1, s1, k2, n2, u2, f2, s2, rfl, h1, h2, hb8⟩; have g1 := Lib.hid h1; have g2 := Lib.hid h2; clear h1 h2; obtain ⟨hc8, hf8⟩ := bcell hb8; have hz8 : w.heap.size < w8.heap.size := (by have := hb8.size; (try simp at this); omega); have hy8 : w.heap.size + 1 < w8.heap.size := (by have := hb8.size; (try simp at this); omega)) | (go_at_call_of 15 (Value.string k); refine (HI.out _).mono ?_; rintro e w6 ⟨rfl, rfl⟩) | (go_at_call_of 15 (Value.string k'); refine (HI'.out _).mono ?_; rintro e w7 ⟨rfl, rfl⟩) | (go_at_call 22; refine (coerces_any _).mono ?_; rintro e w5 ⟨rfl, hb5⟩; obtain ⟨hc5, hf5⟩ := bcell hb5; have hz5 : w.heap.size < w5.heap.size := (by have := hb5.size; (try simp at this); omega); have hy5 : w.heap.size + 1 < w5.heap.size := (by have := hb5.size; (try simp at this); omega)))
  go_ret
  exact ⟨rfl, by repeat (first | exact Below.refl _ _ | exact ((Below.refl _ _).alloc (Nat.le_refl _) _).alloc (by simp) _ | exact (Below.refl _ _).alloc (Nat.le_refl _) _ | refine Below.drew ?_ | refine Below.setCell ?_ (by first | omega | (simp; omega)) _ | refine Below.alloc ?_ (by first | omega | (simp; omega)) _ | refine below_drewN ?_ _ | refine up_below ?_ (Nat.le_refl _) (by assumption))⟩

set_option maxRecDepth 100000 in
set_option maxHeartbeats 1000000 in
theorem lawCoT_main_true_false (k : ByteArray) (n u : Int) (f : Nat) (s : ByteArray) (k' : ByteArray) (n' u' : Int) (f' : Nat) (s' : ByteArray)
    (HZ : Hid (∀ w, Calls Try.prog 9 #[.agg #[.string k, .int .i64 n, .int .u64 u, .float .f64 f, .string s]] w fun e w' => e = .returned (.bool true) ∧ Below w.heap.size w w'))
    (HZ' : Hid (∀ w, Calls Try.prog 9 #[.agg #[.string k', .int .i64 n', .int .u64 u', .float .f64 f', .string s']] w fun e w' => e = .returned (.bool true) ∧ Below w.heap.size w w'))
    (HV : Hid (∀ w, Calls Try.prog 10 #[.agg #[.string k, .int .i64 n, .int .u64 u, .float .f64 f, .string s]] w fun e w' => e = .returned (.bool true) ∧ Below w.heap.size w w'))
    (HV' : Hid (∀ w, Calls Try.prog 10 #[.agg #[.string k', .int .i64 n', .int .u64 u', .float .f64 f', .string s']] w fun e w' => e = .returned (.bool true) ∧ Below w.heap.size w w'))
    (HI : Hid (∀ w, Calls Try.prog 15 #[.string k] w fun e w' => e = .returned (.bool true) ∧ w = w'))
    (HI' : Hid (∀ w, Calls Try.prog 15 #[.string k'] w fun e w' => e = .returned (.bool false) ∧ w = w'))
    (HC : Hid (∀ w, Calls Try.prog 23 #[.agg #[.string k, .int .i64 n, .int .u64 u, .float .f64 f, .string s], .agg #[.string k', .int .i64 n', .int .u64 u', .float .f64 f', .string s']] w fun e w' => ∃ k1 n1 u1 f1 s1 k2 n2 u2 f2 s2, e = .returned (.tuple #[.agg #[.string k1, .int .i64 n1, .int .u64 u1, .float .f64 f1, .string s1], .agg #[.string k2, .int .i64 n2, .int .u64 u2, .float .f64 f2, .string s2]]) ∧ (true = false → sameB k1 n1 u1 f1 s1 k n u f s = true) ∧ (false = false → sameB k2 n2 u2 f2 s2 k' n' u' f' s' = true) ∧ Below w.heap.size w w')) (w : World) :
    Calls Try.prog 7 #[.agg #[.string k, .int .i64 n, .int .u64 u, .float .f64 f, .string s], .agg #[.string k', .int .i64 n', .int .u64 u', .float .f64 f', .string s']] w fun e w' => e = .returned (.bool true) ∧ Below w.heap.size w w' := by
  go_enter Try.func7, Try.ntmps7
  go_wp2_with (first | (go_at_call_of 9 (Value.agg #[.string k, .int .i64 n, .int .u64 u, .float .f64 f, .string s]); refine (HZ.out _).mono ?_; rintro e w1 ⟨rfl, hb1⟩; obtain ⟨hc1, hf1⟩ := bcell hb1; have hz1 : w.heap.size < w1.heap.size := (by have := hb1.size; (try simp at this); omega); have hy1 : w.heap.size + 1 < w1.heap.size := (by have := hb1.size; (try simp at this); omega)) | (go_at_call_of 9 (Value.agg #[.string k', .int .i64 n', .int .u64 u', .float .f64 f', .string s']); refine (HZ'.out _).mono ?_; rintro e w2 ⟨rfl, hb2⟩; obtain ⟨hc2, hf2⟩ := bcell hb2; have hz2 : w.heap.size < w2.heap.size := (by have := hb2.size; (try simp at this); omega); have hy2 : w.heap.size + 1 < w2.heap.size := (by have := hb2.size; (try simp at this); omega)) | (go_at_call_of 10 (Value.agg #[.string k, .int .i64 n, .int .u64 u, .float .f64 f, .string s]); refine (HV.out _).mono ?_; rintro e w3 ⟨rfl, hb3⟩; obtain ⟨hc3, hf3⟩ := bcell hb3; have hz3 : w.heap.size < w3.heap.size := (by have := hb3.size; (try simp at this); omega); have hy3 : w.heap.size + 1 < w3.heap.size := (by have := hb3.size; (try simp at this); omega)) | (go_at_call_of 10 (Value.agg #[.string k', .int .i64 n', .int .u64 u', .float .f64 f', .string s']); refine (HV'.out _).mono ?_; rintro e w4 ⟨rfl, hb4⟩; obtain ⟨hc4, hf4⟩ := bcell hb4; have hz4 : w.heap.size < w4.heap.size := (by have := hb4.size; (try simp at this); omega); have hy4 : w.heap.size + 1 < w4.heap.size := (by have := hb4.size; (try simp at this); omega)) | (go_at_call 23; refine (HC.out _).mono ?_; rintro e w8 ⟨k1, n1, u1, f1, s1, k2, n2, u2, f2, s2, rfl, h1, h2, hb8⟩; have g1 := Lib.hid h1; have g2 := Lib.hid h2; clear h1 h2; obtain ⟨hc8, hf8⟩ := bcell hb8; have hz8 : w.heap.size < w8.heap.size := (by have := hb8.size; (try simp at this); omega); have hy8 : w.heap.size + 1 < w8.heap.size := (by have := hb8.size; (try simp at this); omega)) | (go_at_call_of 15 (Value.string k); refine (HI.out _).mono ?_; rintro e w6 ⟨rfl, rfl⟩) | (go_at_call_of 15 (Value.string k'); refine (HI'.out _).mono ?_; rintro e w7 ⟨rfl, rfl⟩) | (go_at_call_of 17 (Value.agg #[.string k2, .int .i64 n2, .int .u64 u2, .float .f64 f2, .string s2]); refine (same_yes (g2.out (by first | rfl | trivial)) _).mono ?_; rintro e w10 ⟨rfl, hb10⟩; obtain ⟨hc10, hf10⟩ := bcell hb10; have hz10 : w.heap.size < w10.heap.size := (by have := hb10.size; (try simp at this); omega); have hy10 : w.heap.size + 1 < w10.heap.size := (by have := hb10.size; (try simp at this); omega)) | (go_at_call 22; refine (coerces_any _).mono ?_; rintro e w5 ⟨rfl, hb5⟩; obtain ⟨hc5, hf5⟩ := bcell hb5; have hz5 : w.heap.size < w5.heap.size := (by have := hb5.size; (try simp at this); omega); have hy5 : w.heap.size + 1 < w5.heap.size := (by have := hb5.size; (try simp at this); omega)))
  go_ret
  exact ⟨rfl, by repeat (first | exact Below.refl _ _ | exact ((Below.refl _ _).alloc (Nat.le_refl _) _).alloc (by simp) _ | exact (Below.refl _ _).alloc (Nat.le_refl _) _ | refine Below.drew ?_ | refine Below.setCell ?_ (by first | omega | (simp; omega)) _ | refine Below.alloc ?_ (by first | omega | (simp; omega)) _ | refine below_drewN ?_ _ | refine up_below ?_ (Nat.le_refl _) (by assumption))⟩

set_option maxRecDepth 100000 in
set_option maxHeartbeats 1000000 in
theorem lawCoT_main_false_true (k : ByteArray) (n u : Int) (f : Nat) (s : ByteArray) (k' : ByteArray) (n' u' : Int) (f' : Nat) (s' : ByteArray)
    (HZ : Hid (∀ w, Calls Try.prog 9 #[.agg #[.string k, .int .i64 n, .int .u64 u, .float .f64 f, .string s]] w fun e w' => e = .returned (.bool true) ∧ Below w.heap.size w w'))
    (HZ' : Hid (∀ w, Calls Try.prog 9 #[.agg #[.string k', .int .i64 n', .int .u64 u', .float .f64 f', .string s']] w fun e w' => e = .returned (.bool true) ∧ Below w.heap.size w w'))
    (HV : Hid (∀ w, Calls Try.prog 10 #[.agg #[.string k, .int .i64 n, .int .u64 u, .float .f64 f, .string s]] w fun e w' => e = .returned (.bool true) ∧ Below w.heap.size w w'))
    (HV' : Hid (∀ w, Calls Try.prog 10 #[.agg #[.string k', .int .i64 n', .int .u64 u', .float .f64 f', .string s']] w fun e w' => e = .returned (.bool true) ∧ Below w.heap.size w w'))
    (HI : Hid (∀ w, Calls Try.prog 15 #[.string k] w fun e w' => e = .returned (.bool false) ∧ w = w'))
    (HI' : Hid (∀ w, Calls Try.prog 15 #[.string k'] w fun e w' => e = .returned (.bool true) ∧ w = w'))
    (HC : Hid (∀ w, Calls Try.prog 23 #[.agg #[.string k, .int .i64 n, .int .u64 u, .float .f64 f, .string s], .agg #[.string k', .int .i64 n', .int .u64 u', .float .f64 f', .string s']] w fun e w' => ∃ k1 n1 u1 f1 s1 k2 n2 u2 f2 s2, e = .returned (.tuple #[.agg #[.string k1, .int .i64 n1, .int .u64 u1, .float .f64 f1, .string s1], .agg #[.string k2, .int .i64 n2, .int .u64 u2, .float .f64 f2, .string s2]]) ∧ (false = false → sameB k1 n1 u1 f1 s1 k n u f s = true) ∧ (true = false → sameB k2 n2 u2 f2 s2 k' n' u' f' s' = true) ∧ Below w.heap.size w w')) (w : World) :
    Calls Try.prog 7 #[.agg #[.string k, .int .i64 n, .int .u64 u, .float .f64 f, .string s], .agg #[.string k', .int .i64 n', .int .u64 u', .float .f64 f', .string s']] w fun e w' => e = .returned (.bool true) ∧ Below w.heap.size w w' := by
  go_enter Try.func7, Try.ntmps7
  go_wp2_with (first | (go_at_call_of 9 (Value.agg #[.string k, .int .i64 n, .int .u64 u, .float .f64 f, .string s]); refine (HZ.out _).mono ?_; rintro e w1 ⟨rfl, hb1⟩; obtain ⟨hc1, hf1⟩ := bcell hb1; have hz1 : w.heap.size < w1.heap.size := (by have := hb1.size; (try simp at this); omega); have hy1 : w.heap.size + 1 < w1.heap.size := (by have := hb1.size; (try simp at this); omega)) | (go_at_call_of 9 (Value.agg #[.string k', .int .i64 n', .int .u64 u', .float .f64 f', .string s']); refine (HZ'.out _).mono ?_; rintro e w2 ⟨rfl, hb2⟩; obtain ⟨hc2, hf2⟩ := bcell hb2; have hz2 : w.heap.size < w2.heap.size := (by have := hb2.size; (try simp at this); omega); have hy2 : w.heap.size + 1 < w2.heap.size := (by have := hb2.size; (try simp at this); omega)) | (go_at_call_of 10 (Value.agg #[.string k, .int .i64 n, .int .u64 u, .float .f64 f, .string s]); refine (HV.out _).mono ?_; rintro e w3 ⟨rfl, hb3⟩; obtain ⟨hc3, hf3⟩ := bcell hb3; have hz3 : w.heap.size < w3.heap.size := (by have := hb3.size; (try simp at this); omega); have hy3 : w.heap.size + 1 < w3.heap.size := (by have := hb3.size; (try simp at this); omega)) | (go_at_call_of 10 (Value.agg #[.string k', .int .i64 n', .int .u64 u', .float .f64 f', .string s']); refine (HV'.out _).mono ?_; rintro e w4 ⟨rfl, hb4⟩; obtain ⟨hc4, hf4⟩ := bcell hb4; have hz4 : w.heap.size < w4.heap.size := (by have := hb4.size; (try simp at this); omega); have hy4 : w.heap.size + 1 < w4.heap.size := (by have := hb4.size; (try simp at this); omega)) | (go_at_call 23; refine (HC.out _).mono ?_; rintro e w8 ⟨k1, n1, u1, f1, s1, k2, n2, u2, f2, s2, rfl, h1, h2, hb8⟩; have g1 := Lib.hid h1; have g2 := Lib.hid h2; clear h1 h2; obtain ⟨hc8, hf8⟩ := bcell hb8; have hz8 : w.heap.size < w8.heap.size := (by have := hb8.size; (try simp at this); omega); have hy8 : w.heap.size + 1 < w8.heap.size := (by have := hb8.size; (try simp at this); omega)) | (go_at_call_of 15 (Value.string k); refine (HI.out _).mono ?_; rintro e w6 ⟨rfl, rfl⟩) | (go_at_call_of 15 (Value.string k'); refine (HI'.out _).mono ?_; rintro e w7 ⟨rfl, rfl⟩) | (go_at_call_of 17 (Value.agg #[.string k1, .int .i64 n1, .int .u64 u1, .float .f64 f1, .string s1]); refine (same_yes (g1.out (by first | rfl | trivial)) _).mono ?_; rintro e w9 ⟨rfl, hb9⟩; obtain ⟨hc9, hf9⟩ := bcell hb9; have hz9 : w.heap.size < w9.heap.size := (by have := hb9.size; (try simp at this); omega); have hy9 : w.heap.size + 1 < w9.heap.size := (by have := hb9.size; (try simp at this); omega)) | (go_at_call 22; refine (coerces_any _).mono ?_; rintro e w5 ⟨rfl, hb5⟩; obtain ⟨hc5, hf5⟩ := bcell hb5; have hz5 : w.heap.size < w5.heap.size := (by have := hb5.size; (try simp at this); omega); have hy5 : w.heap.size + 1 < w5.heap.size := (by have := hb5.size; (try simp at this); omega)))
  go_ret
  exact ⟨rfl, by repeat (first | exact Below.refl _ _ | exact ((Below.refl _ _).alloc (Nat.le_refl _) _).alloc (by simp) _ | exact (Below.refl _ _).alloc (Nat.le_refl _) _ | refine Below.drew ?_ | refine Below.setCell ?_ (by first | omega | (simp; omega)) _ | refine Below.alloc ?_ (by first | omega | (simp; omega)) _ | refine below_drewN ?_ _ | refine up_below ?_ (Nat.le_refl _) (by assumption))⟩

set_option maxRecDepth 100000 in
set_option maxHeartbeats 1000000 in
theorem lawCoT_main_false_false (k : ByteArray) (n u : Int) (f : Nat) (s : ByteArray) (k' : ByteArray) (n' u' : Int) (f' : Nat) (s' : ByteArray)
    (HZ : Hid (∀ w, Calls Try.prog 9 #[.agg #[.string k, .int .i64 n, .int .u64 u, .float .f64 f, .string s]] w fun e w' => e = .returned (.bool true) ∧ Below w.heap.size w w'))
    (HZ' : Hid (∀ w, Calls Try.prog 9 #[.agg #[.string k', .int .i64 n', .int .u64 u', .float .f64 f', .string s']] w fun e w' => e = .returned (.bool true) ∧ Below w.heap.size w w'))
    (HV : Hid (∀ w, Calls Try.prog 10 #[.agg #[.string k, .int .i64 n, .int .u64 u, .float .f64 f, .string s]] w fun e w' => e = .returned (.bool true) ∧ Below w.heap.size w w'))
    (HV' : Hid (∀ w, Calls Try.prog 10 #[.agg #[.string k', .int .i64 n', .int .u64 u', .float .f64 f', .string s']] w fun e w' => e = .returned (.bool true) ∧ Below w.heap.size w w'))
    (HI : Hid (∀ w, Calls Try.prog 15 #[.string k] w fun e w' => e = .returned (.bool false) ∧ w = w'))
    (HI' : Hid (∀ w, Calls Try.prog 15 #[.string k'] w fun e w' => e = .returned (.bool false) ∧ w = w'))
    (HC : Hid (∀ w, Calls Try.prog 23 #[.agg #[.string k, .int .i64 n, .int .u64 u, .float .f64 f, .string s], .agg #[.string k', .int .i64 n', .int .u64 u', .float .f64 f', .string s']] w fun e w' => ∃ k1 n1 u1 f1 s1 k2 n2 u2 f2 s2, e = .returned (.tuple #[.agg #[.string k1, .int .i64 n1, .int .u64 u1, .float .f64 f1, .string s1], .agg #[.string k2, .int .i64 n2, .int .u64 u2, .float .f64 f2, .string s2]]) ∧ (false = false → sameB k1 n1 u1 f1 s1 k n u f s = true) ∧ (false = false → sameB k2 n2 u2 f2 s2 k' n' u' f' s' = true) ∧ Below w.heap.size w w')) (w : World) :
    Calls Try.prog 7 #[.agg #[.string k, .int .i64 n, .int .u64 u, .float .f64 f, .string s], .agg #[.string k', .int .i64 n', .int .u64 u', .float .f64 f', .string s']] w fun e w' => e = .returned (.bool true) ∧ Below w.heap.size w w' := by
  go_enter Try.func7, Try.ntmps7
  go_wp2_with (first | (go_at_call_of 9 (Value.agg #[.string k, .int .i64 n, .int .u64 u, .float .f64 f, .string s]); refine (HZ.out _).mono ?_; rintro e w1 ⟨rfl, hb1⟩; obtain ⟨hc1, hf1⟩ := bcell hb1; have hz1 : w.heap.size < w1.heap.size := (by have := hb1.size; (try simp at this); omega); have hy1 : w.heap.size + 1 < w1.heap.size := (by have := hb1.size; (try simp at this); omega)) | (go_at_call_of 9 (Value.agg #[.string k', .int .i64 n', .int .u64 u', .float .f64 f', .string s']); refine (HZ'.out _).mono ?_; rintro e w2 ⟨rfl, hb2⟩; obtain ⟨hc2, hf2⟩ := bcell hb2; have hz2 : w.heap.size < w2.heap.size := (by have := hb2.size; (try simp at this); omega); have hy2 : w.heap.size + 1 < w2.heap.size := (by have := hb2.size; (try simp at this); omega)) | (go_at_call_of 10 (Value.agg #[.string k, .int .i64 n, .int .u64 u, .float .f64 f, .string s]); refine (HV.out _).mono ?_; rintro e w3 ⟨rfl, hb3⟩; obtain ⟨hc3, hf3⟩ := bcell hb3; have hz3 : w.heap.size < w3.heap.size := (by have := hb3.size; (try simp at this); omega); have hy3 : w.heap.size + 1 < w3.heap.size := (by have := hb3.size; (try simp at this); omega)) | (go_at_call_of 10 (Value.agg #[.string k', .int .i64 n', .int .u64 u', .float .f64 f', .string s']); refine (HV'.out _).mono ?_; rintro e w4 ⟨rfl, hb4⟩; obtain ⟨hc4, hf4⟩ := bcell hb4; have hz4 : w.heap.size < w4.heap.size := (by have := hb4.size; (try simp at this); omega); have hy4 : w.heap.size + 1 < w4.heap.size := (by have := hb4.size; (try simp at this); omega)) | (go_at_call 23; refine (HC.out _).mono ?_; rintro e w8 ⟨k1, n1, u1, f1, s1, k2, n2, u2, f2, s2, rfl, h1, h2, hb8⟩; have g1 := Lib.hid h1; have g2 := Lib.hid h2; clear h1 h2; obtain ⟨hc8, hf8⟩ := bcell hb8; have hz8 : w.heap.size < w8.heap.size := (by have := hb8.size; (try simp at this); omega); have hy8 : w.heap.size + 1 < w8.heap.size := (by have := hb8.size; (try simp at this); omega)) | (go_at_call_of 15 (Value.string k); refine (HI.out _).mono ?_; rintro e w6 ⟨rfl, rfl⟩) | (go_at_call_of 15 (Value.string k'); refine (HI'.out _).mono ?_; rintro e w7 ⟨rfl, rfl⟩) | (go_at_call_of 17 (Value.agg #[.string k1, .int .i64 n1, .int .u64 u1, .float .f64 f1, .string s1]); refine (same_yes (g1.out (by first | rfl | trivial)) _).mono ?_; rintro e w9 ⟨rfl, hb9⟩; obtain ⟨hc9, hf9⟩ := bcell hb9; have hz9 : w.heap.size < w9.heap.size := (by have := hb9.size; (try simp at this); omega); have hy9 : w.heap.size + 1 < w9.heap.size := (by have := hb9.size; (try simp at this); omega)) | (go_at_call_of 17 (Value.agg #[.string k2, .int .i64 n2, .int .u64 u2, .float .f64 f2, .string s2]); refine (same_yes (g2.out (by first | rfl | trivial)) _).mono ?_; rintro e w10 ⟨rfl, hb10⟩; obtain ⟨hc10, hf10⟩ := bcell hb10; have hz10 : w.heap.size < w10.heap.size := (by have := hb10.size; (try simp at this); omega); have hy10 : w.heap.size + 1 < w10.heap.size := (by have := hb10.size; (try simp at this); omega)) | (go_at_call 22; refine (coerces_any _).mono ?_; rintro e w5 ⟨rfl, hb5⟩; obtain ⟨hc5, hf5⟩ := bcell hb5; have hz5 : w.heap.size < w5.heap.size := (by have := hb5.size; (try simp at this); omega); have hy5 : w.heap.size + 1 < w5.heap.size := (by have := hb5.size; (try simp at this); omega)))
  go_ret
  exact ⟨rfl, by repeat (first | exact Below.refl _ _ | exact ((Below.refl _ _).alloc (Nat.le_refl _) _).alloc (by simp) _ | exact (Below.refl _ _).alloc (Nat.le_refl _) _ | refine Below.drew ?_ | refine Below.setCell ?_ (by first | omega | (simp; omega)) _ | refine Below.alloc ?_ (by first | omega | (simp; omega)) _ | refine below_drewN ?_ _ | refine up_below ?_ (Nat.le_refl _) (by assumption))⟩

theorem isLit_ideal {K : Kd} {n u : Int} {f : Nat} {s : ByteArray} {x : SV} (h : SVof K n u f s x) (hi : K.ideal = false) : x.isLit = false := by
  unfold SVof at h
  split at h
  · obtain ⟨y, rfl, _⟩ := h
    rfl
  · subst h
    cases K <;> first | rfl | exact absurd hi (by simp [Kd.ideal])

theorem lawCoT_walk (k : ByteArray) (n u : Int) (f : Nat) (s : ByteArray) (hr : Rng n u f) (k' : ByteArray) (n' u' : Int) (f' : Nat) (s' : ByteArray) (hr' : Rng n' u' f') (w : World) :
    Calls Try.prog 7 #[.agg #[.string k, .int .i64 n, .int .u64 u, .float .f64 f, .string s], .agg #[.string k', .int .i64 n', .int .u64 u', .float .f64 f', .string s']] w fun e w' => e = .returned (.bool true) ∧ Below w.heap.size w w' := by
  have hz := fun w => zzFits1_any k n u f s w
  have hz' := fun w => zzFits1_any k' n' u' f' s' w
  cases h1 : fitsB k s with
  | false =>
    rw [h1] at hz
    exact lawCoT_long1 k n u f s k' n' u' f' s' hz w
  | true =>
  rw [h1] at hz
  cases h1' : fitsB k' s' with
  | false =>
    rw [h1'] at hz'
    exact lawCoT_long2 k n u f s k' n' u' f' s' hz hz' w
  | true =>
  rw [h1'] at hz'
  have hv := fun w => valid_any k n u f s w
  have hv' := fun w => valid_any k' n' u' f' s' w
  cases h2 : validB (Kd.of k.toList) n u f s with
  | false =>
    rw [h2] at hv
    exact lawCoT_inv1 k n u f s k' n' u' f' s' hz hz' hv w
  | true =>
  rw [h2] at hv
  cases h2' : validB (Kd.of k'.toList) n' u' f' s' with
  | false =>
    rw [h2'] at hv'
    exact lawCoT_inv2 k n u f s k' n' u' f' s' hz hz' hv hv' w
  | true =>
  rw [h2'] at hv'
  have hi := fun w => isIdeal_any k w
  have hi' := fun w => isIdeal_any k' w
  have hc : ∀ w, Calls Try.prog 23 #[.agg #[.string k, .int .i64 n, .int .u64 u, .float .f64 f, .string s], .agg #[.string k', .int .i64 n', .int .u64 u', .float .f64 f', .string s']] w fun e w' => ∃ k1 n1 u1 f1 s1 k2 n2 u2 f2 s2, e = .returned (.tuple #[.agg #[.string k1, .int .i64 n1, .int .u64 u1, .float .f64 f1, .string s1], .agg #[.string k2, .int .i64 n2, .int .u64 u2, .float .f64 f2, .string s2]]) ∧ ((Kd.of k.toList).ideal = false → sameB k1 n1 u1 f1 s1 k n u f s = true) ∧ ((Kd.of k'.toList).ideal = false → sameB k2 n2 u2 f2 s2 k' n' u' f' s' = true) ∧ Below w.heap.size w w' := fun w =>
    (implCoerce_any k n u f s k' n' u' f' s' hr h2 hr' h2' w).mono fun e w' ⟨x, y, a, b, g, h, hx, hy, ht, hg, hh, he, hb⟩ =>
      ⟨_, _, _, _, _, _, _, _, _, _, he, fun hh1 => by obtain rfl := ht.ka (isLit_ideal hx hh1); exact back_same h2 hx hg, fun hh2 => by obtain rfl := ht.kb (isLit_ideal hy hh2); exact back_same h2' hy hh, hb⟩
  cases h3 : (Kd.of k.toList).ideal <;> cases h3' : (Kd.of k'.toList).ideal <;> rw [h3] at hi hc <;> rw [h3'] at hi' hc
  · exact lawCoT_main_false_false k n u f s k' n' u' f' s' hz hz' hv hv' hi hi' hc w
  · exact lawCoT_main_false_true k n u f s k' n' u' f' s' hz hz' hv hv' hi hi' hc w
  · exact lawCoT_main_true_false k n u f s k' n' u' f' s' hz hz' hv hv' hi hi' hc w
  · exact lawCoT_main_true_true k n u f s k' n' u' f' s' hz hz' hv hv' hi hi' hc w

end Go.Proofs.Ytamekjbdpcflfaa
