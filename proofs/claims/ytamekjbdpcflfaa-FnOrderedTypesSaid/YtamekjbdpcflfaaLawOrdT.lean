/-
  The walk of laws.FnOrderedTypes: it returns true.
-/
import Derived.Test.YtamekjbdpcflfaaOrd
namespace Go.Proofs.Ytamekjbdpcflfaa
open Go.RowKit

theorem up_below {B : Nat} {w w' w'' : World} (h : Below B w w') (hB : B ≤ w.heap.size) (h2 : Below w'.heap.size w' w'') : Below B w w'' := h.trans (h2.mono (Nat.le_trans hB h.size))

theorem bcellD {W w1 : World} (hb : Below W.drew.heap.size W.drew w1) : (∀ b o, b < W.heap.size → w1.cell? ⟨b, o, none⟩ = W.cell? ⟨b, o, none⟩) ∧ (∀ b o, b < W.heap.size → w1.frozen? ⟨b, o, none⟩ = W.frozen? ⟨b, o, none⟩) := bcell (W := W.drew) hb

theorem conc_valid {kd : Kd} {n u : Int} {f : Nat} {s : ByteArray} (h : concB kd n u f s = true) : validB kd n u f s = true := by
  unfold concB at h
  simp only [Bool.and_eq_true] at h
  exact h.1.1

set_option maxHeartbeats 400000 in
theorem lawOrdT_long (k : ByteArray) (n u : Int) (f : Nat) (s : ByteArray)
    (HZ : Hid (∀ w, Calls Try.prog 9 #[.agg #[.string k, .int .i64 n, .int .u64 u, .float .f64 f, .string s]] w fun e w' => e = .returned (.bool false) ∧ Below w.heap.size w w')) (w : World) :
    Calls Try.prog 4 #[.agg #[.string k, .int .i64 n, .int .u64 u, .float .f64 f, .string s]] w fun e w' => e = .returned (.bool true) ∧ Below w.heap.size w w' := by
  go_enter Try.func4, Try.ntmps4
  go_wp2_with (go_at_call 9; refine (HZ.out _).mono ?_; rintro e w1 ⟨rfl, hb1⟩)
  go_ret
  exact ⟨rfl, by repeat (first | exact Below.refl _ _ | exact (Below.refl _ _).alloc (Nat.le_refl _) _ | refine Below.drew ?_ | refine up_below ?_ (Nat.le_refl _) (by assumption))⟩

set_option maxRecDepth 100000 in
set_option maxHeartbeats 1000000 in
theorem lawOrdT_skip (k : ByteArray) (n u : Int) (f : Nat) (s : ByteArray) (c : Bool) (h : c = false ∨ k.toList.isEmpty = true ∨ (k.toList == [98, 108, 111, 98]) = true)
    (HZ : Hid (∀ w, Calls Try.prog 9 #[.agg #[.string k, .int .i64 n, .int .u64 u, .float .f64 f, .string s]] w fun e w' => e = .returned (.bool true) ∧ Below w.heap.size w w'))
    (HC : Hid (∀ w, Calls Try.prog 14 #[.agg #[.string k, .int .i64 n, .int .u64 u, .float .f64 f, .string s]] w fun e w' => e = .returned (.bool c) ∧ Below w.heap.size w w')) (w : World) :
    Calls Try.prog 4 #[.agg #[.string k, .int .i64 n, .int .u64 u, .float .f64 f, .string s]] w fun e w' => e = .returned (.bool true) ∧ Below w.heap.size w w' := by
  cases c with
  | false =>
    clear h
    go_enter Try.func4, Try.ntmps4
    go_wp2_with (first | (go_at_call 9; refine (HZ.out _).mono ?_; rintro e w1 ⟨rfl, hb1⟩; obtain ⟨hc1, hf1⟩ := bcell hb1; have hz1 : w.heap.size < w1.heap.size := (by have := hb1.size; (try simp at this); omega)) | (go_at_call 14; refine (HC.out _).mono ?_; rintro e w2 ⟨rfl, hb2⟩; obtain ⟨hc2, hf2⟩ := bcell hb2; have hz2 : w.heap.size < w2.heap.size := (by have := hb2.size; (try simp at this); omega)) | (go_at_call 12; refine (num_any _ _).mono ?_; rintro e w3 ⟨rfl, hb3⟩) | (go_at_call 11; refine (ordered_one _).mono ?_; rintro e w4 ⟨rfl, hb4⟩))
    go_ret
    exact ⟨rfl, by repeat (first | exact Below.refl _ _ | exact (Below.refl _ _).alloc (Nat.le_refl _) _ | refine Below.drew ?_ | refine up_below ?_ (Nat.le_refl _) (by assumption))⟩
  | true =>
    cases he : k.toList.isEmpty with
    | true =>
      clear h
      go_enter Try.func4, Try.ntmps4
      go_wp2_with (first | (go_at_call 9; refine (HZ.out _).mono ?_; rintro e w1 ⟨rfl, hb1⟩; obtain ⟨hc1, hf1⟩ := bcell hb1; have hz1 : w.heap.size < w1.heap.size := (by have := hb1.size; (try simp at this); omega)) | (go_at_call 14; refine (HC.out _).mono ?_; rintro e w2 ⟨rfl, hb2⟩; obtain ⟨hc2, hf2⟩ := bcell hb2; have hz2 : w.heap.size < w2.heap.size := (by have := hb2.size; (try simp at this); omega)) | (go_at_call 12; refine (num_any _ _).mono ?_; rintro e w3 ⟨rfl, hb3⟩) | (go_at_call 11; refine (ordered_one _).mono ?_; rintro e w4 ⟨rfl, hb4⟩))
      go_ret
      exact ⟨rfl, by repeat (first | exact Below.refl _ _ | exact (Below.refl _ _).alloc (Nat.le_refl _) _ | refine Below.drew ?_ | refine up_below ?_ (Nat.le_refl _) (by assumption))⟩
    | false =>
      have h' : (k.toList == [98, 108, 111, 98]) = true := by
        rcases h with h | h | h
        · cases h
        · rw [he] at h; cases h
        · exact h
      clear h
      go_enter Try.func4, Try.ntmps4
      go_wp2_with (first | (go_at_call 9; refine (HZ.out _).mono ?_; rintro e w1 ⟨rfl, hb1⟩; obtain ⟨hc1, hf1⟩ := bcell hb1; have hz1 : w.heap.size < w1.heap.size := (by have := hb1.size; (try simp at this); omega)) | (go_at_call 14; refine (HC.out _).mono ?_; rintro e w2 ⟨rfl, hb2⟩; obtain ⟨hc2, hf2⟩ := bcell hb2; have hz2 : w.heap.size < w2.heap.size := (by have := hb2.size; (try simp at this); omega)) | (go_at_call 12; refine (num_any _ _).mono ?_; rintro e w3 ⟨rfl, hb3⟩) | (go_at_call 11; refine (ordered_one _).mono ?_; rintro e w4 ⟨rfl, hb4⟩))
      go_ret
      exact ⟨rfl, by repeat (first | exact Below.refl _ _ | exact (Below.refl _ _).alloc (Nat.le_refl _) _ | refine Below.drew ?_ | refine up_below ?_ (Nat.le_refl _) (by assumption))⟩

set_option maxRecDepth 100000 in
set_option maxHeartbeats 1000000 in
theorem lawOrdT_ord (k : ByteArray) (n u : Int) (f : Nat) (s : ByteArray) (h1 : k.toList.isEmpty = false) (h2 : (k.toList == [98, 108, 111, 98]) = false) (h3 : (k.toList == [98, 111, 111, 108]) = false)
    (HZ : Hid (∀ w, Calls Try.prog 9 #[.agg #[.string k, .int .i64 n, .int .u64 u, .float .f64 f, .string s]] w fun e w' => e = .returned (.bool true) ∧ Below w.heap.size w w'))
    (HC : Hid (∀ w, Calls Try.prog 14 #[.agg #[.string k, .int .i64 n, .int .u64 u, .float .f64 f, .string s]] w fun e w' => e = .returned (.bool true) ∧ Below w.heap.size w w'))
    (HO : Hid (∀ w, Calls Try.prog 11 #[.agg #[.string k, .int .i64 n, .int .u64 u, .float .f64 f, .string s]] w fun e w' => e = .returned (.bool true) ∧ Below w.heap.size w w')) (w : World) :
    Calls Try.prog 4 #[.agg #[.string k, .int .i64 n, .int .u64 u, .float .f64 f, .string s]] w fun e w' => e = .returned (.bool true) ∧ Below w.heap.size w w' := by
  go_enter Try.func4, Try.ntmps4
  go_wp2_with (first | (go_at_call 9; refine (HZ.out _).mono ?_; rintro e w1 ⟨rfl, hb1⟩; obtain ⟨hc1, hf1⟩ := bcell hb1; have hz1 : w.heap.size < w1.heap.size := (by have := hb1.size; (try simp at this); omega)) | (go_at_call 14; refine (HC.out _).mono ?_; rintro e w2 ⟨rfl, hb2⟩; obtain ⟨hc2, hf2⟩ := bcell hb2; have hz2 : w.heap.size < w2.heap.size := (by have := hb2.size; (try simp at this); omega)))
  go_region_with (first | (go_at_call_of 11 (Value.string k); refine (HO.out _).mono ?_; rintro e w3 ⟨rfl, hb3⟩; obtain ⟨hc3, hf3⟩ := bcellD hb3; have hz3 : w.heap.size < w3.heap.size := (by have := hb3.size; (try simp at this); omega)) | (go_at_call 12; refine (num_any _ _).mono ?_; rintro e w4 ⟨rfl, hb4⟩; obtain ⟨hc4, hf4⟩ := bcell hb4; have hz4 : w.heap.size < w4.heap.size := (by have := hb4.size; (try simp at this); omega)) | (go_at_call_of 11 (Value.string int64S); refine (ordered_one _).mono ?_; rintro e w5 ⟨rfl, hb5⟩))
  all_goals
    go_wp2
    go_ret
    exact ⟨rfl, by repeat (first | exact Below.refl _ _ | exact (Below.refl _ _).alloc (Nat.le_refl _) _ | refine Below.drew ?_ | refine up_below ?_ (Nat.le_refl _) (by assumption))⟩

set_option maxRecDepth 100000 in
set_option maxHeartbeats 1000000 in
theorem lawOrdT_bool (k : ByteArray) (n u : Int) (f : Nat) (s : ByteArray) (h1 : k.toList.isEmpty = false) (h2 : (k.toList == [98, 108, 111, 98]) = false) (h3 : (k.toList == [98, 111, 111, 108]) = true)
    (HZ : Hid (∀ w, Calls Try.prog 9 #[.agg #[.string k, .int .i64 n, .int .u64 u, .float .f64 f, .string s]] w fun e w' => e = .returned (.bool true) ∧ Below w.heap.size w w'))
    (HC : Hid (∀ w, Calls Try.prog 14 #[.agg #[.string k, .int .i64 n, .int .u64 u, .float .f64 f, .string s]] w fun e w' => e = .returned (.bool true) ∧ Below w.heap.size w w'))
    (HO : Hid (∀ w, Calls Try.prog 11 #[.agg #[.string k, .int .i64 n, .int .u64 u, .float .f64 f, .string s]] w fun e w' => e = .returned (.bool false) ∧ Below w.heap.size w w')) (w : World) :
    Calls Try.prog 4 #[.agg #[.string k, .int .i64 n, .int .u64 u, .float .f64 f, .string s]] w fun e w' => e = .returned (.bool true) ∧ Below w.heap.size w w' := by
  go_enter Try.func4, Try.ntmps4
  go_wp2_with (first | (go_at_call 9; refine (HZ.out _).mono ?_; rintro e w1 ⟨rfl, hb1⟩; obtain ⟨hc1, hf1⟩ := bcell hb1; have hz1 : w.heap.size < w1.heap.size := (by have := hb1.size; (try simp at this); omega)) | (go_at_call 14; refine (HC.out _).mono ?_; rintro e w2 ⟨rfl, hb2⟩; obtain ⟨hc2, hf2⟩ := bcell hb2; have hz2 : w.heap.size < w2.heap.size := (by have := hb2.size; (try simp at this); omega)))
  go_region_with (first | (go_at_call_of 11 (Value.string k); refine (HO.out _).mono ?_; rintro e w3 ⟨rfl, hb3⟩; obtain ⟨hc3, hf3⟩ := bcellD hb3; have hz3 : w.heap.size < w3.heap.size := (by have := hb3.size; (try simp at this); omega)) | (go_at_call 12; refine (num_any _ _).mono ?_; rintro e w4 ⟨rfl, hb4⟩; obtain ⟨hc4, hf4⟩ := bcell hb4; have hz4 : w.heap.size < w4.heap.size := (by have := hb4.size; (try simp at this); omega)) | (go_at_call_of 11 (Value.string int64S); refine (ordered_one _).mono ?_; rintro e w5 ⟨rfl, hb5⟩))
  all_goals
    go_wp2
    go_ret
    exact ⟨rfl, by repeat (first | exact Below.refl _ _ | exact (Below.refl _ _).alloc (Nat.le_refl _) _ | refine Below.drew ?_ | refine up_below ?_ (Nat.le_refl _) (by assumption))⟩

theorem lawOrdT_walk (k : ByteArray) (n u : Int) (f : Nat) (s : ByteArray) (hr : Rng n u f) (w : World) :
    Calls Try.prog 4 #[.agg #[.string k, .int .i64 n, .int .u64 u, .float .f64 f, .string s]] w fun e w' => e = .returned (.bool true) ∧ Below w.heap.size w w' := by
  have hz := fun w => zzFits1_any k n u f s w
  cases h1 : fitsB k s with
  | false =>
    rw [h1] at hz
    exact lawOrdT_long k n u f s hz w
  | true =>
    rw [h1] at hz
    have hcc := fun w => concrete_any k n u f s w
    cases h2 : concB (Kd.of k.toList) n u f s with
    | false =>
      rw [h2] at hcc
      exact lawOrdT_skip k n u f s false (.inl rfl) hz hcc w
    | true =>
      rw [h2] at hcc
      have ho := fun w => ordered_any k n u f s hr (conc_valid h2) w
      cases hk : Kd.of k.toList with
      | other => rw [hk] at h2; simp [concB, validB] at h2
      | iInt => rw [hk] at h2; simp [concB, Kd.ideal] at h2
      | iRune => rw [hk] at h2; simp [concB, Kd.ideal] at h2
      | iUint => rw [hk] at h2; simp [concB, Kd.ideal] at h2
      | iFloat => rw [hk] at h2; simp [concB, Kd.ideal] at h2
      | null => exact lawOrdT_skip k n u f s true (.inr (.inl (by rw [Kd.of_lit _ hk (by simp)]; rfl))) hz hcc w
      | blob => exact lawOrdT_skip k n u f s true (.inr (.inr (by rw [Kd.of_lit _ hk (by simp)]; rfl))) hz hcc w
      | bool =>
        rw [hk] at ho
        exact lawOrdT_bool k n u f s (by rw [Kd.of_lit _ hk (by simp)]; rfl) (by rw [Kd.of_lit _ hk (by simp)]; rfl) (by rw [Kd.of_lit _ hk (by simp)]; rfl) hz hcc ho w
      | int q =>
        rw [hk] at ho
        exact lawOrdT_ord k n u f s (by rw [Kd.of_lit _ hk (by simp)]; cases q <;> rfl) (by rw [Kd.of_lit _ hk (by simp)]; cases q <;> rfl) (by rw [Kd.of_lit _ hk (by simp)]; cases q <;> rfl) hz hcc ho w
      | f32 =>
        rw [hk] at ho
        exact lawOrdT_ord k n u f s (by rw [Kd.of_lit _ hk (by simp)]; rfl) (by rw [Kd.of_lit _ hk (by simp)]; rfl) (by rw [Kd.of_lit _ hk (by simp)]; rfl) hz hcc ho w
      | f64 =>
        rw [hk] at ho
        exact lawOrdT_ord k n u f s (by rw [Kd.of_lit _ hk (by simp)]; rfl) (by rw [Kd.of_lit _ hk (by simp)]; rfl) (by rw [Kd.of_lit _ hk (by simp)]; rfl) hz hcc ho w
      | str =>
        rw [hk] at ho
        exact lawOrdT_ord k n u f s (by rw [Kd.of_lit _ hk (by simp)]; rfl) (by rw [Kd.of_lit _ hk (by simp)]; rfl) (by rw [Kd.of_lit _ hk (by simp)]; rfl) hz hcc ho w

end Go.Proofs.Ytamekjbdpcflfaa
