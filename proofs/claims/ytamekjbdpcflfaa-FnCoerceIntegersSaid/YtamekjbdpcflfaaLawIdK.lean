/-
  The walk of laws.FnIdealKinds: it returns true. PRINTED BY wip/tpl/gen_idk.py.
-/
import Derived.Test.YtamekjbdpcflfaaOut2
namespace Go.Proofs.Ytamekjbdpcflfaa
open Go.RowKit

set_option maxRecDepth 100000 in
set_option maxHeartbeats 1000000 in
theorem lawIdK_long (k : ByteArray) (n u : Int) (f : Nat) (s : ByteArray)
    (HZ : Hid (∀ w, Calls Try.prog 9 #[.agg #[.string k, .int .i64 n, .int .u64 u, .float .f64 f, .string s]] w fun e w' => e = .returned (.bool false) ∧ Below w.heap.size w w')) (w : World) :
    Calls Try.prog 5 #[.agg #[.string k, .int .i64 n, .int .u64 u, .float .f64 f, .string s]] w fun e w' => e = .returned (.bool true) ∧ Below w.heap.size w w' := by
  go_enter Try.func5, Try.ntmps5
  go_wp2_with (first | (go_at_call 9; refine (HZ.out _).mono ?_; rintro e w1 ⟨rfl, hb1⟩; obtain ⟨hc1, hf1⟩ := bcell hb1; have hz1 : w.heap.size < w1.heap.size := (by have := hb1.size; (try simp at this); omega)))
  go_ret
  exact ⟨rfl, by repeat (first | exact Below.refl _ _ | exact (Below.refl _ _).alloc (Nat.le_refl _) _ | refine Below.drew ?_ | refine below_drewN ?_ _ | refine up_below ?_ (Nat.le_refl _) (by assumption))⟩

set_option maxRecDepth 100000 in
set_option maxHeartbeats 1000000 in
theorem lawIdK_inv (k : ByteArray) (n u : Int) (f : Nat) (s : ByteArray)
    (HZ : Hid (∀ w, Calls Try.prog 9 #[.agg #[.string k, .int .i64 n, .int .u64 u, .float .f64 f, .string s]] w fun e w' => e = .returned (.bool true) ∧ Below w.heap.size w w'))
    (HV : Hid (∀ w, Calls Try.prog 10 #[.agg #[.string k, .int .i64 n, .int .u64 u, .float .f64 f, .string s]] w fun e w' => e = .returned (.bool false) ∧ Below w.heap.size w w')) (w : World) :
    Calls Try.prog 5 #[.agg #[.string k, .int .i64 n, .int .u64 u, .float .f64 f, .string s]] w fun e w' => e = .returned (.bool true) ∧ Below w.heap.size w w' := by
  go_enter Try.func5, Try.ntmps5
  go_wp2_with (first | (go_at_call 9; refine (HZ.out _).mono ?_; rintro e w1 ⟨rfl, hb1⟩; obtain ⟨hc1, hf1⟩ := bcell hb1; have hz1 : w.heap.size < w1.heap.size := (by have := hb1.size; (try simp at this); omega)) | (go_at_call 10; refine (HV.out _).mono ?_; rintro e w2 ⟨rfl, hb2⟩; obtain ⟨hc2, hf2⟩ := bcell hb2; have hz2 : w.heap.size < w2.heap.size := (by have := hb2.size; (try simp at this); omega)) | (go_at_call 16; refine (ideals_any _).mono ?_; rintro e w5 ⟨rfl, hb5⟩; obtain ⟨hc5, hf5⟩ := bcell hb5; have hz5 : w.heap.size < w5.heap.size := (by have := hb5.size; (try simp at this); omega)))
  go_ret
  exact ⟨rfl, by repeat (first | exact Below.refl _ _ | exact (Below.refl _ _).alloc (Nat.le_refl _) _ | refine Below.drew ?_ | refine below_drewN ?_ _ | refine up_below ?_ (Nat.le_refl _) (by assumption))⟩

set_option maxRecDepth 100000 in
set_option maxHeartbeats 1000000 in
theorem lawIdK_not (k : ByteArray) (n u : Int) (f : Nat) (s : ByteArray)
    (HZ : Hid (∀ w, Calls Try.prog 9 #[.agg #[.string k, .int .i64 n, .int .u64 u, .float .f64 f, .string s]] w fun e w' => e = .returned (.bool true) ∧ Below w.heap.size w w'))
    (HV : Hid (∀ w, Calls Try.prog 10 #[.agg #[.string k, .int .i64 n, .int .u64 u, .float .f64 f, .string s]] w fun e w' => e = .returned (.bool true) ∧ Below w.heap.size w w'))
    (HI : Hid (∀ w, Calls Try.prog 15 #[.string k] w fun e w' => e = .returned (.bool false) ∧ w = w')) (w : World) :
    Calls Try.prog 5 #[.agg #[.string k, .int .i64 n, .int .u64 u, .float .f64 f, .string s]] w fun e w' => e = .returned (.bool true) ∧ Below w.heap.size w w' := by
  go_enter Try.func5, Try.ntmps5
  go_wp2_with (first | (go_at_call 9; refine (HZ.out _).mono ?_; rintro e w1 ⟨rfl, hb1⟩; obtain ⟨hc1, hf1⟩ := bcell hb1; have hz1 : w.heap.size < w1.heap.size := (by have := hb1.size; (try simp at this); omega)) | (go_at_call 10; refine (HV.out _).mono ?_; rintro e w2 ⟨rfl, hb2⟩; obtain ⟨hc2, hf2⟩ := bcell hb2; have hz2 : w.heap.size < w2.heap.size := (by have := hb2.size; (try simp at this); omega)) | (go_at_call 15; refine (HI.out _).mono ?_; rintro e w6 ⟨rfl, rfl⟩) | (go_at_call 16; refine (ideals_any _).mono ?_; rintro e w5 ⟨rfl, hb5⟩; obtain ⟨hc5, hf5⟩ := bcell hb5; have hz5 : w.heap.size < w5.heap.size := (by have := hb5.size; (try simp at this); omega)))
  go_ret
  exact ⟨rfl, by repeat (first | exact Below.refl _ _ | exact (Below.refl _ _).alloc (Nat.le_refl _) _ | refine Below.drew ?_ | refine below_drewN ?_ _ | refine up_below ?_ (Nat.le_refl _) (by assumption))⟩

set_option maxRecDepth 100000 in
set_option maxHeartbeats 1000000 in
theorem lawIdK_rune (k : ByteArray) (n u : Int) (f : Nat) (s : ByteArray)
    (hr : (k.toList == [105, 100, 101, 97, 108, 82, 117, 110, 101]) = true) (HZ : Hid (∀ w, Calls Try.prog 9 #[.agg #[.string k, .int .i64 n, .int .u64 u, .float .f64 f, .string s]] w fun e w' => e = .returned (.bool true) ∧ Below w.heap.size w w'))
    (HV : Hid (∀ w, Calls Try.prog 10 #[.agg #[.string k, .int .i64 n, .int .u64 u, .float .f64 f, .string s]] w fun e w' => e = .returned (.bool true) ∧ Below w.heap.size w w'))
    (HI : Hid (∀ w, Calls Try.prog 15 #[.string k] w fun e w' => e = .returned (.bool true) ∧ w = w')) (w : World) :
    Calls Try.prog 5 #[.agg #[.string k, .int .i64 n, .int .u64 u, .float .f64 f, .string s]] w fun e w' => e = .returned (.bool true) ∧ Below w.heap.size w w' := by
  go_enter Try.func5, Try.ntmps5
  go_wp2_with (first | (go_at_call 9; refine (HZ.out _).mono ?_; rintro e w1 ⟨rfl, hb1⟩; obtain ⟨hc1, hf1⟩ := bcell hb1; have hz1 : w.heap.size < w1.heap.size := (by have := hb1.size; (try simp at this); omega)) | (go_at_call 10; refine (HV.out _).mono ?_; rintro e w2 ⟨rfl, hb2⟩; obtain ⟨hc2, hf2⟩ := bcell hb2; have hz2 : w.heap.size < w2.heap.size := (by have := hb2.size; (try simp at this); omega)) | (go_at_call 15; refine (HI.out _).mono ?_; rintro e w6 ⟨rfl, rfl⟩) | (go_at_call 16; refine (ideals_any _).mono ?_; rintro e w5 ⟨rfl, hb5⟩; obtain ⟨hc5, hf5⟩ := bcell hb5; have hz5 : w.heap.size < w5.heap.size := (by have := hb5.size; (try simp at this); omega)))
  go_ret
  exact ⟨rfl, by repeat (first | exact Below.refl _ _ | exact (Below.refl _ _).alloc (Nat.le_refl _) _ | refine Below.drew ?_ | refine below_drewN ?_ _ | refine up_below ?_ (Nat.le_refl _) (by assumption))⟩

set_option maxRecDepth 100000 in
set_option maxHeartbeats 1000000 in
theorem lawIdK_int (k : ByteArray) (n u : Int) (f : Nat) (s : ByteArray)
    (hl : k.toList = [105, 100, 101, 97, 108, 73, 110, 116]) (HZ : Hid (∀ w, Calls Try.prog 9 #[.agg #[.string k, .int .i64 n, .int .u64 u, .float .f64 f, .string s]] w fun e w' => e = .returned (.bool true) ∧ Below w.heap.size w w'))
    (HV : Hid (∀ w, Calls Try.prog 10 #[.agg #[.string k, .int .i64 n, .int .u64 u, .float .f64 f, .string s]] w fun e w' => e = .returned (.bool true) ∧ Below w.heap.size w w'))
    (HI : Hid (∀ w, Calls Try.prog 15 #[.string k] w fun e w' => e = .returned (.bool true) ∧ w = w'))
    (HD : Hid (∀ w, Calls Try.prog 18 #[.agg #[.string k, .int .i64 n, .int .u64 u, .float .f64 f, .string s]] w fun e w' => e = .returned (.agg #[.string ⟨#[105, 110, 116, 54, 52]⟩, .int .i64 n, .int .u64 0, .float .f64 0, .string ⟨#[]⟩]) ∧ Below w.heap.size w w'))
    (HS : Hid (∀ w, Calls Try.prog 17 #[.agg #[.string ⟨#[105, 110, 116, 54, 52]⟩, .int .i64 n, .int .u64 0, .float .f64 0, .string ⟨#[]⟩], .agg #[.string ⟨#[105, 110, 116, 54, 52]⟩, .int .i64 n, .int .u64 u, .float .f64 f, .string s]] w fun e w' => e = .returned (.bool true) ∧ Below w.heap.size w w')) (w : World) :
    Calls Try.prog 5 #[.agg #[.string k, .int .i64 n, .int .u64 u, .float .f64 f, .string s]] w fun e w' => e = .returned (.bool true) ∧ Below w.heap.size w w' := by
  go_enter Try.func5, Try.ntmps5
  go_wp2_with (first | (go_at_call 9; refine (HZ.out _).mono ?_; rintro e w1 ⟨rfl, hb1⟩; obtain ⟨hc1, hf1⟩ := bcell hb1; have hz1 : w.heap.size < w1.heap.size := (by have := hb1.size; (try simp at this); omega)) | (go_at_call 10; refine (HV.out _).mono ?_; rintro e w2 ⟨rfl, hb2⟩; obtain ⟨hc2, hf2⟩ := bcell hb2; have hz2 : w.heap.size < w2.heap.size := (by have := hb2.size; (try simp at this); omega)) | (go_at_call 15; refine (HI.out _).mono ?_; rintro e w6 ⟨rfl, rfl⟩))
  go_region_with (first | (go_at_call 18; refine (HD.out _).mono ?_; rintro e w3 ⟨rfl, hb3⟩; obtain ⟨hc3, hf3⟩ := bcellD hb3; have hz3 : w.heap.size < w3.heap.size := (by have := hb3.size; (try simp at this); omega); have hy3 : w2.heap.size < w3.heap.size := (by have := hb3.size; (try simp at this); omega)) | (go_at_call 17; refine (HS.out _).mono ?_; rintro e w4 ⟨rfl, hb4⟩; obtain ⟨hc4, hf4⟩ := bcell hb4; have hz4 : w.heap.size < w4.heap.size := (by have := hb4.size; (try simp at this); omega)) | (go_at_call 16; refine (ideals_any _).mono ?_; rintro e w5 ⟨rfl, hb5⟩))
  all_goals
    go_wp2
    go_ret
    exact ⟨rfl, by repeat (first | exact Below.refl _ _ | exact (Below.refl _ _).alloc (Nat.le_refl _) _ | refine Below.drew ?_ | refine Below.setCell ?_ (by first | omega | (simp; omega)) _ | refine Below.alloc ?_ (by first | omega | (simp; omega)) _ | refine below_drewN ?_ _ | refine up_below ?_ (Nat.le_refl _) (by assumption))⟩

set_option maxRecDepth 100000 in
set_option maxHeartbeats 1000000 in
theorem lawIdK_uint (k : ByteArray) (n u : Int) (f : Nat) (s : ByteArray)
    (hl : k.toList = [105, 100, 101, 97, 108, 85, 105, 110, 116]) (HZ : Hid (∀ w, Calls Try.prog 9 #[.agg #[.string k, .int .i64 n, .int .u64 u, .float .f64 f, .string s]] w fun e w' => e = .returned (.bool true) ∧ Below w.heap.size w w'))
    (HV : Hid (∀ w, Calls Try.prog 10 #[.agg #[.string k, .int .i64 n, .int .u64 u, .float .f64 f, .string s]] w fun e w' => e = .returned (.bool true) ∧ Below w.heap.size w w'))
    (HI : Hid (∀ w, Calls Try.prog 15 #[.string k] w fun e w' => e = .returned (.bool true) ∧ w = w'))
    (HD : Hid (∀ w, Calls Try.prog 18 #[.agg #[.string k, .int .i64 n, .int .u64 u, .float .f64 f, .string s]] w fun e w' => e = .returned (.agg #[.string ⟨#[117, 105, 110, 116, 54, 52]⟩, .int .i64 0, .int .u64 u, .float .f64 0, .string ⟨#[]⟩]) ∧ Below w.heap.size w w'))
    (HS : Hid (∀ w, Calls Try.prog 17 #[.agg #[.string ⟨#[117, 105, 110, 116, 54, 52]⟩, .int .i64 0, .int .u64 u, .float .f64 0, .string ⟨#[]⟩], .agg #[.string ⟨#[117, 105, 110, 116, 54, 52]⟩, .int .i64 n, .int .u64 u, .float .f64 f, .string s]] w fun e w' => e = .returned (.bool true) ∧ Below w.heap.size w w')) (w : World) :
    Calls Try.prog 5 #[.agg #[.string k, .int .i64 n, .int .u64 u, .float .f64 f, .string s]] w fun e w' => e = .returned (.bool true) ∧ Below w.heap.size w w' := by
  go_enter Try.func5, Try.ntmps5
  go_wp2_with (first | (go_at_call 9; refine (HZ.out _).mono ?_; rintro e w1 ⟨rfl, hb1⟩; obtain ⟨hc1, hf1⟩ := bcell hb1; have hz1 : w.heap.size < w1.heap.size := (by have := hb1.size; (try simp at this); omega)) | (go_at_call 10; refine (HV.out _).mono ?_; rintro e w2 ⟨rfl, hb2⟩; obtain ⟨hc2, hf2⟩ := bcell hb2; have hz2 : w.heap.size < w2.heap.size := (by have := hb2.size; (try simp at this); omega)) | (go_at_call 15; refine (HI.out _).mono ?_; rintro e w6 ⟨rfl, rfl⟩))
  go_region_with (first | (go_at_call 18; refine (HD.out _).mono ?_; rintro e w3 ⟨rfl, hb3⟩; obtain ⟨hc3, hf3⟩ := bcellD hb3; have hz3 : w.heap.size < w3.heap.size := (by have := hb3.size; (try simp at this); omega); have hy3 : w2.heap.size < w3.heap.size := (by have := hb3.size; (try simp at this); omega)) | (go_at_call 17; refine (HS.out _).mono ?_; rintro e w4 ⟨rfl, hb4⟩; obtain ⟨hc4, hf4⟩ := bcell hb4; have hz4 : w.heap.size < w4.heap.size := (by have := hb4.size; (try simp at this); omega)) | (go_at_call 16; refine (ideals_any _).mono ?_; rintro e w5 ⟨rfl, hb5⟩))
  all_goals
    go_wp2
    go_ret
    exact ⟨rfl, by repeat (first | exact Below.refl _ _ | exact (Below.refl _ _).alloc (Nat.le_refl _) _ | refine Below.drew ?_ | refine Below.setCell ?_ (by first | omega | (simp; omega)) _ | refine Below.alloc ?_ (by first | omega | (simp; omega)) _ | refine below_drewN ?_ _ | refine up_below ?_ (Nat.le_refl _) (by assumption))⟩

set_option maxRecDepth 100000 in
set_option maxHeartbeats 1000000 in
theorem lawIdK_float (k : ByteArray) (n u : Int) (f : Nat) (s : ByteArray)
    (hl : k.toList = [105, 100, 101, 97, 108, 70, 108, 111, 97, 116]) (HZ : Hid (∀ w, Calls Try.prog 9 #[.agg #[.string k, .int .i64 n, .int .u64 u, .float .f64 f, .string s]] w fun e w' => e = .returned (.bool true) ∧ Below w.heap.size w w'))
    (HV : Hid (∀ w, Calls Try.prog 10 #[.agg #[.string k, .int .i64 n, .int .u64 u, .float .f64 f, .string s]] w fun e w' => e = .returned (.bool true) ∧ Below w.heap.size w w'))
    (HI : Hid (∀ w, Calls Try.prog 15 #[.string k] w fun e w' => e = .returned (.bool true) ∧ w = w'))
    (HD : Hid (∀ w, Calls Try.prog 18 #[.agg #[.string k, .int .i64 n, .int .u64 u, .float .f64 f, .string s]] w fun e w' => e = .returned (.agg #[.string ⟨#[102, 108, 111, 97, 116, 54, 52]⟩, .int .i64 0, .int .u64 0, .float .f64 f, .string ⟨#[]⟩]) ∧ Below w.heap.size w w'))
    (HS : Hid (∀ w, Calls Try.prog 17 #[.agg #[.string ⟨#[102, 108, 111, 97, 116, 54, 52]⟩, .int .i64 0, .int .u64 0, .float .f64 f, .string ⟨#[]⟩], .agg #[.string ⟨#[102, 108, 111, 97, 116, 54, 52]⟩, .int .i64 n, .int .u64 u, .float .f64 f, .string s]] w fun e w' => e = .returned (.bool true) ∧ Below w.heap.size w w')) (w : World) :
    Calls Try.prog 5 #[.agg #[.string k, .int .i64 n, .int .u64 u, .float .f64 f, .string s]] w fun e w' => e = .returned (.bool true) ∧ Below w.heap.size w w' := by
  go_enter Try.func5, Try.ntmps5
  go_wp2_with (first | (go_at_call 9; refine (HZ.out _).mono ?_; rintro e w1 ⟨rfl, hb1⟩; obtain ⟨hc1, hf1⟩ := bcell hb1; have hz1 : w.heap.size < w1.heap.size := (by have := hb1.size; (try simp at this); omega)) | (go_at_call 10; refine (HV.out _).mono ?_; rintro e w2 ⟨rfl, hb2⟩; obtain ⟨hc2, hf2⟩ := bcell hb2; have hz2 : w.heap.size < w2.heap.size := (by have := hb2.size; (try simp at this); omega)) | (go_at_call 15; refine (HI.out _).mono ?_; rintro e w6 ⟨rfl, rfl⟩))
  go_region_with (first | (go_at_call 18; refine (HD.out _).mono ?_; rintro e w3 ⟨rfl, hb3⟩; obtain ⟨hc3, hf3⟩ := bcellD hb3; have hz3 : w.heap.size < w3.heap.size := (by have := hb3.size; (try simp at this); omega); have hy3 : w2.heap.size < w3.heap.size := (by have := hb3.size; (try simp at this); omega)) | (go_at_call 17; refine (HS.out _).mono ?_; rintro e w4 ⟨rfl, hb4⟩; obtain ⟨hc4, hf4⟩ := bcell hb4; have hz4 : w.heap.size < w4.heap.size := (by have := hb4.size; (try simp at this); omega)) | (go_at_call 16; refine (ideals_any _).mono ?_; rintro e w5 ⟨rfl, hb5⟩))
  all_goals
    go_wp2
    go_ret
    exact ⟨rfl, by repeat (first | exact Below.refl _ _ | exact (Below.refl _ _).alloc (Nat.le_refl _) _ | refine Below.drew ?_ | refine Below.setCell ?_ (by first | omega | (simp; omega)) _ | refine Below.alloc ?_ (by first | omega | (simp; omega)) _ | refine below_drewN ?_ _ | refine up_below ?_ (Nat.le_refl _) (by assumption))⟩

theorem zeros_b {f : Nat} {s : ByteArray} (h : zeros f s = true) : bitsV f = 0 ∧ s.toList = [] := by
  unfold zeros at h
  simp only [Bool.and_eq_true, beq_iff_eq, List.isEmpty_iff] at h
  exact h
theorem nil_toList : (⟨#[]⟩ : ByteArray).toList = [] := by decide +kernel
theorem bitsV_0 : bitsV 0 = 0 := by decide +kernel

theorem lawIdK_walk (k : ByteArray) (n u : Int) (f : Nat) (s : ByteArray) (hr : Rng n u f) (w : World) :
    Calls Try.prog 5 #[.agg #[.string k, .int .i64 n, .int .u64 u, .float .f64 f, .string s]] w fun e w' => e = .returned (.bool true) ∧ Below w.heap.size w w' := by
  have hz := fun w => zzFits1_any k n u f s w
  cases h1 : fitsB k s with
  | false =>
    rw [h1] at hz
    exact lawIdK_long k n u f s hz w
  | true =>
    rw [h1] at hz
    have hv := fun w => valid_any k n u f s w
    cases h2 : validB (Kd.of k.toList) n u f s with
    | false =>
      rw [h2] at hv
      exact lawIdK_inv k n u f s hz hv w
    | true =>
      rw [h2] at hv
      have hi := fun w => isIdeal_any k w
      have hd0 := fun w => implIdeal_any k n u f s hr h2 w
      cases hk : Kd.of k.toList with
      | iRune =>
        rw [hk] at hi
        exact lawIdK_rune k n u f s (by rw [Kd.of_lit _ hk (by simp)]; rfl) hz hv hi w
      | iInt =>
        rw [hk] at hi h2
        rw [show Kd.ideal .iInt = true from rfl] at hi
        simp only [validB, Bool.and_eq_true, beq_iff_eq] at h2
        have hd : ∀ w, Calls Try.prog 18 #[.agg #[.string k, .int .i64 n, .int .u64 u, .float .f64 f, .string s]] w fun e w' => e = .returned (.agg #[.string ⟨#[105, 110, 116, 54, 52]⟩, .int .i64 n, .int .u64 0, .float .f64 0, .string ⟨#[]⟩]) ∧ Below w.heap.size w w' := fun w =>
          (hd0 w).mono fun e w' ⟨y, g, hsv, hfo, he, hb⟩ => by
            rw [hk] at hsv
            unfold SVof at hsv
            rw [if_neg (fun h => by cases h.1)] at hsv
            subst hsv
            unfold FOut at hfo
            rw [if_neg (by simp [toSV, SV.idl, SV.isN32])] at hfo
            subst hfo
            exact ⟨he, hb⟩
        refine lawIdK_int k n u f s (Kd.of_lit _ hk (by simp)) hz hv hi hd (fun w => ?_) w
        have hs := same_any ⟨#[105, 110, 116, 54, 52]⟩ n 0 0 ⟨#[]⟩ ⟨#[105, 110, 116, 54, 52]⟩ n u f s w
        have : sameB ⟨#[105, 110, 116, 54, 52]⟩ n 0 0 ⟨#[]⟩ ⟨#[105, 110, 116, 54, 52]⟩ n u f s = true := by obtain ⟨e1, e2⟩ := zeros_b h2.1.2; unfold sameB; rw [nil_toList, e1, e2, bitsV_0, h2.1.1]; simp
        rw [this] at hs
        exact hs
      | iUint =>
        rw [hk] at hi h2
        rw [show Kd.ideal .iUint = true from rfl] at hi
        simp only [validB, Bool.and_eq_true, beq_iff_eq] at h2
        have hd : ∀ w, Calls Try.prog 18 #[.agg #[.string k, .int .i64 n, .int .u64 u, .float .f64 f, .string s]] w fun e w' => e = .returned (.agg #[.string ⟨#[117, 105, 110, 116, 54, 52]⟩, .int .i64 0, .int .u64 u, .float .f64 0, .string ⟨#[]⟩]) ∧ Below w.heap.size w w' := fun w =>
          (hd0 w).mono fun e w' ⟨y, g, hsv, hfo, he, hb⟩ => by
            rw [hk] at hsv
            unfold SVof at hsv
            rw [if_neg (fun h => by cases h.1)] at hsv
            subst hsv
            unfold FOut at hfo
            rw [if_neg (by simp [toSV, SV.idl, SV.isN32])] at hfo
            subst hfo
            exact ⟨he, hb⟩
        refine lawIdK_uint k n u f s (Kd.of_lit _ hk (by simp)) hz hv hi hd (fun w => ?_) w
        have hs := same_any ⟨#[117, 105, 110, 116, 54, 52]⟩ 0 u 0 ⟨#[]⟩ ⟨#[117, 105, 110, 116, 54, 52]⟩ n u f s w
        have : sameB ⟨#[117, 105, 110, 116, 54, 52]⟩ 0 u 0 ⟨#[]⟩ ⟨#[117, 105, 110, 116, 54, 52]⟩ n u f s = true := by obtain ⟨e1, e2⟩ := zeros_b h2.2; unfold sameB; rw [nil_toList, e1, e2, bitsV_0, h2.1]; simp
        rw [this] at hs
        exact hs
      | iFloat =>
        rw [hk] at hi h2
        rw [show Kd.ideal .iFloat = true from rfl] at hi
        simp only [validB, Bool.and_eq_true, beq_iff_eq] at h2
        have hd : ∀ w, Calls Try.prog 18 #[.agg #[.string k, .int .i64 n, .int .u64 u, .float .f64 f, .string s]] w fun e w' => e = .returned (.agg #[.string ⟨#[102, 108, 111, 97, 116, 54, 52]⟩, .int .i64 0, .int .u64 0, .float .f64 f, .string ⟨#[]⟩]) ∧ Below w.heap.size w w' := fun w =>
          (hd0 w).mono fun e w' ⟨y, g, hsv, hfo, he, hb⟩ => by
            rw [hk] at hsv
            unfold SVof at hsv
            rw [if_neg (fun h => by cases h.1)] at hsv
            subst hsv
            unfold FOut at hfo
            rw [if_neg (by simp [toSV, SV.idl, SV.isN32])] at hfo
            subst hfo
            exact ⟨he, hb⟩
        refine lawIdK_float k n u f s (Kd.of_lit _ hk (by simp)) hz hv hi hd (fun w => ?_) w
        have hs := same_any ⟨#[102, 108, 111, 97, 116, 54, 52]⟩ 0 0 f ⟨#[]⟩ ⟨#[102, 108, 111, 97, 116, 54, 52]⟩ n u f s w
        have : sameB ⟨#[102, 108, 111, 97, 116, 54, 52]⟩ 0 0 f ⟨#[]⟩ ⟨#[102, 108, 111, 97, 116, 54, 52]⟩ n u f s = true := by unfold sameB; rw [nil_toList, h2.1.1, h2.1.2, List.isEmpty_iff.1 h2.2]; simp
        rw [this] at hs
        exact hs
      | null =>
        rw [hk] at hi
        exact lawIdK_not k n u f s hz hv hi w
      | bool =>
        rw [hk] at hi
        exact lawIdK_not k n u f s hz hv hi w
      | int q =>
        rw [hk] at hi
        exact lawIdK_not k n u f s hz hv hi w
      | f32 =>
        rw [hk] at hi
        exact lawIdK_not k n u f s hz hv hi w
      | f64 =>
        rw [hk] at hi
        exact lawIdK_not k n u f s hz hv hi w
      | str =>
        rw [hk] at hi
        exact lawIdK_not k n u f s hz hv hi w
      | blob =>
        rw [hk] at hi
        exact lawIdK_not k n u f s hz hv hi w
      | other =>
        rw [hk] at hi
        exact lawIdK_not k n u f s hz hv hi w

end Go.Proofs.Ytamekjbdpcflfaa
