/-
  The walk of laws.FnHasPrefixFront: it returns true. PRINTED BY wip/tpl/gen_lawhp.py.
-/
import Derived.Test.YtamekjbdpcflfaaDoorHp
namespace Go.Proofs.YtamekjbdpcflfaaDoor
open Go.RowKit

theorem hp_ab (w : World) : Calls Tryd.prog 11 #[.agg #[.string strS, .int .i64 0, .int .u64 0, .float .f64 0, .string ⟨#[97, 98]⟩], .agg #[.string strS, .int .i64 0, .int .u64 0, .float .f64 0, .string ⟨#[97]⟩]] w fun e w' => e = .returned (.tuple #[.agg #[.string boolS, .int .i64 1, .int .u64 0, .float .f64 0, .string empS], .int .i64 0]) ∧ Below w.heap.size w w' := by
  have h := implHp_any ⟨#[97, 98]⟩ ⟨#[97]⟩ w
  rw [show preB ⟨#[97, 98]⟩ ⟨#[97]⟩ = true from by decide +kernel] at h
  exact h

theorem truth_c1 (b : Bool) (h : b = true) (w : World) : Calls Tryd.prog 15 #[.bool b] w fun e w' => e = .returned (.agg #[.string boolS, .int .i64 1, .int .u64 0, .float .f64 0, .string empS]) ∧ Below w.heap.size w w' := by
  subst h
  exact truth_b true w
theorem truth_c0 (b : Bool) (h : b = false) (w : World) : Calls Tryd.prog 15 #[.bool b] w fun e w' => e = .returned (.agg #[.string boolS, .int .i64 0, .int .u64 0, .float .f64 0, .string empS]) ∧ Below w.heap.size w w' := by
  subst h
  exact truth_b false w
theorem min_size {s t : ByteArray} (h : t.size ≤ s.size) : (if t.size < s.size then (t.size : Int) else (s.size : Int)).toNat = t.size := by split <;> omega
theorem same_b (n : Int) (w : World) : Calls Tryd.prog 14 #[.agg #[.string boolS, .int .i64 n, .int .u64 0, .float .f64 0, .string empS], .agg #[.string boolS, .int .i64 n, .int .u64 0, .float .f64 0, .string empS]] w fun e w' => e = .returned (.bool true) ∧ Below w.heap.size w w' := by
  have h := same_any boolS n 0 0 empS boolS n 0 0 empS w
  rw [show sameB boolS n 0 0 empS boolS n 0 0 empS = true from by simp [sameB]] at h
  exact h

set_option maxRecDepth 100000 in
set_option maxHeartbeats 1000000 in
theorem lawHp_s (s t : ByteArray) (h : 2147483647 < (s.size : Int)) (w : World) : Calls Tryd.prog 4 #[.string s, .string t] w fun e w' => e = .returned (.bool true) ∧ Below w.heap.size w w' := by
  go_enter Tryd.func4, Tryd.ntmps4
  go_wp2_with (first | fail)
  all_goals
    go_ret
    exact ⟨rfl, (by repeat (first | (with_reducible exact Below.refl _ _) | (with_reducible refine up_below ?_ (Nat.le_refl _) (by assumption)) | (with_reducible refine Below.alloc ?_ (by first | omega | (simp; omega)) _) | (with_reducible refine Below.drew ?_)))⟩

set_option maxRecDepth 100000 in
set_option maxHeartbeats 1000000 in
theorem lawHp_t (s t : ByteArray) (h1 : (s.size : Int) ≤ 2147483647) (h : 2147483647 < (t.size : Int)) (w : World) : Calls Tryd.prog 4 #[.string s, .string t] w fun e w' => e = .returned (.bool true) ∧ Below w.heap.size w w' := by
  go_enter Tryd.func4, Tryd.ntmps4
  go_wp2_with (first | fail)
  all_goals
    go_ret
    exact ⟨rfl, (by repeat (first | (with_reducible exact Below.refl _ _) | (with_reducible refine up_below ?_ (Nat.le_refl _) (by assumption)) | (with_reducible refine Below.alloc ?_ (by first | omega | (simp; omega)) _) | (with_reducible refine Below.drew ?_)))⟩

set_option maxRecDepth 100000 in
set_option maxHeartbeats 1000000 in
theorem lawHp_m1 (s t : ByteArray) (h1 : (s.size : Int) ≤ 2147483647) (h2 : (t.size : Int) ≤ 2147483647) (h : 2000 < (s.size : Int)) (w : World) : Calls Tryd.prog 4 #[.string s, .string t] w fun e w' => e = .returned (.bool true) ∧ Below w.heap.size w w' := by
  go_enter Tryd.func4, Tryd.ntmps4
  go_wp2_with (first | (go_at_call_of 12 (Value.string ⟨#[97, 98]⟩); refine (str_any _ _).mono ?_; rintro e w1 ⟨rfl, hb1⟩; have hs1 := hb1.size) | (go_at_call_of 12 (Value.string ⟨#[97]⟩); refine (str_any _ _).mono ?_; rintro e w2 ⟨rfl, hb2⟩; have hs2 := hb2.size) | (go_at_call_of 11 (Value.string ⟨#[97, 98]⟩); refine (hp_ab _).mono ?_; rintro e w3 ⟨rfl, hb3⟩; have hs3 := hb3.size) | (go_at_call 13; refine (isTrue_1 _).mono ?_; rintro e w4 ⟨rfl, hb4⟩))
  all_goals
    go_ret
    exact ⟨rfl, (by repeat (first | (with_reducible exact Below.refl _ _) | (with_reducible refine up_below ?_ (Nat.le_refl _) (by assumption)) | (with_reducible refine Below.alloc ?_ (by first | omega | (simp; omega)) _) | (with_reducible refine Below.drew ?_)))⟩

set_option maxRecDepth 100000 in
set_option maxHeartbeats 1000000 in
theorem lawHp_m2 (s t : ByteArray) (h1 : (s.size : Int) ≤ 2000) (h2 : (t.size : Int) ≤ 2147483647) (h : 2000 < (t.size : Int)) (w : World) : Calls Tryd.prog 4 #[.string s, .string t] w fun e w' => e = .returned (.bool true) ∧ Below w.heap.size w w' := by
  go_enter Tryd.func4, Tryd.ntmps4
  go_wp2_with (first | (go_at_call_of 12 (Value.string ⟨#[97, 98]⟩); refine (str_any _ _).mono ?_; rintro e w1 ⟨rfl, hb1⟩; have hs1 := hb1.size) | (go_at_call_of 12 (Value.string ⟨#[97]⟩); refine (str_any _ _).mono ?_; rintro e w2 ⟨rfl, hb2⟩; have hs2 := hb2.size) | (go_at_call_of 11 (Value.string ⟨#[97, 98]⟩); refine (hp_ab _).mono ?_; rintro e w3 ⟨rfl, hb3⟩; have hs3 := hb3.size) | (go_at_call 13; refine (isTrue_1 _).mono ?_; rintro e w4 ⟨rfl, hb4⟩))
  all_goals
    go_ret
    exact ⟨rfl, (by repeat (first | (with_reducible exact Below.refl _ _) | (with_reducible refine up_below ?_ (Nat.le_refl _) (by assumption)) | (with_reducible refine Below.alloc ?_ (by first | omega | (simp; omega)) _) | (with_reducible refine Below.drew ?_)))⟩

set_option maxRecDepth 100000 in
set_option maxHeartbeats 1000000 in
theorem lawHp_no (s t : ByteArray) (h1 : (s.size : Int) ≤ 2000) (h2 : (t.size : Int) ≤ 2000) (hN : ¬ t.size ≤ s.size) (HH : Hid (∀ w, Calls Tryd.prog 11 #[.agg #[.string strS, .int .i64 0, .int .u64 0, .float .f64 0, .string s], .agg #[.string strS, .int .i64 0, .int .u64 0, .float .f64 0, .string t]] w fun e w' => e = .returned (.tuple #[.agg #[.string boolS, .int .i64 0, .int .u64 0, .float .f64 0, .string empS], .int .i64 0]) ∧ Below w.heap.size w w')) (w : World) : Calls Tryd.prog 4 #[.string s, .string t] w fun e w' => e = .returned (.bool true) ∧ Below w.heap.size w w' := by
  go_enter Tryd.func4, Tryd.ntmps4
  go_wp2_with (first | (go_at_call_of 12 (Value.string ⟨#[97, 98]⟩); refine (str_any _ _).mono ?_; rintro e w1 ⟨rfl, hb1⟩; have hs1 := hb1.size) | (go_at_call_of 12 (Value.string ⟨#[97]⟩); refine (str_any _ _).mono ?_; rintro e w2 ⟨rfl, hb2⟩; have hs2 := hb2.size) | (go_at_call_of 11 (Value.string ⟨#[97, 98]⟩); refine (hp_ab _).mono ?_; rintro e w3 ⟨rfl, hb3⟩; have hs3 := hb3.size) | (go_at_call_of 12 (Value.string s); refine (str_any _ _).mono ?_; rintro e w5 ⟨rfl, hb5⟩; obtain ⟨hc5, hf5⟩ := bcell hb5; have hs5 := hb5.size; (try simp at hs5); have hz5 : w3.heap.size < w5.heap.size := (by have := hb5.size; (try simp at this); omega)) | (go_at_call_of 12 (Value.string t); refine (str_any _ _).mono ?_; rintro e w6 ⟨rfl, hb6⟩; obtain ⟨hc6, hf6⟩ := bcell hb6; have hs6 := hb6.size; (try simp at hs6); have hz6 : w3.heap.size < w6.heap.size := (by have := hb6.size; (try simp at this); omega)) | (go_at_call 11; refine (HH.out _).mono ?_; rintro e w7 ⟨rfl, hb7⟩; obtain ⟨hc7, hf7⟩ := bcell hb7; have hs7 := hb7.size; (try simp at hs7); have hz7 : w3.heap.size < w7.heap.size := (by have := hb7.size; (try simp at this); omega)) | (go_at_call 15; refine (truth_b _ _).mono ?_; rintro e w8 ⟨rfl, hb8⟩) | (go_at_call 14; refine (same_b _ _).mono ?_; rintro e w9 ⟨rfl, hb9⟩) | (go_at_call 13; refine (isTrue_1 _).mono ?_; rintro e w4 ⟨rfl, hb4⟩))
  refine wp_region_bw (by kernel_rfl) (by kernel_rfl) ?_
  repeat (go_big_quiet_step ((first | (go_at_call 15; exact bw_of (truth_c0 _ (by first | with_reducible rfl | exact he | (rw [min_size hN]; exact he)) _)) | (go_at_call 14; exact bw_of (same_b _ _)) | (go_at_call 13; exact bw_of (isTrue_1 _)))))
  refine wpQuiet_nil ?_
  intro _ hw'
  obtain ⟨pq, hw''⟩ := hw'
  subst hw''
  have hbq := pq.h
  go_wp2
  all_goals
    go_ret
    exact ⟨rfl, (by repeat (first | (with_reducible exact Below.refl _ _) | (with_reducible refine up_below ?_ (Nat.le_refl _) (by assumption)) | (with_reducible refine Below.alloc ?_ (by first | omega | (simp; omega)) _) | (with_reducible refine Below.drew ?_)))⟩

set_option maxRecDepth 100000 in
set_option maxHeartbeats 1000000 in
theorem lawHp_yes (s t : ByteArray) (h1 : (s.size : Int) ≤ 2000) (h2 : (t.size : Int) ≤ 2000) (hN : t.size ≤ s.size) (he : ((s.extract 0 t.size).toList == t.toList) = true) (HH : Hid (∀ w, Calls Tryd.prog 11 #[.agg #[.string strS, .int .i64 0, .int .u64 0, .float .f64 0, .string s], .agg #[.string strS, .int .i64 0, .int .u64 0, .float .f64 0, .string t]] w fun e w' => e = .returned (.tuple #[.agg #[.string boolS, .int .i64 1, .int .u64 0, .float .f64 0, .string empS], .int .i64 0]) ∧ Below w.heap.size w w')) (w : World) : Calls Tryd.prog 4 #[.string s, .string t] w fun e w' => e = .returned (.bool true) ∧ Below w.heap.size w w' := by
  go_enter Tryd.func4, Tryd.ntmps4
  go_wp2_with (first | (go_at_call_of 12 (Value.string ⟨#[97, 98]⟩); refine (str_any _ _).mono ?_; rintro e w1 ⟨rfl, hb1⟩; have hs1 := hb1.size) | (go_at_call_of 12 (Value.string ⟨#[97]⟩); refine (str_any _ _).mono ?_; rintro e w2 ⟨rfl, hb2⟩; have hs2 := hb2.size) | (go_at_call_of 11 (Value.string ⟨#[97, 98]⟩); refine (hp_ab _).mono ?_; rintro e w3 ⟨rfl, hb3⟩; have hs3 := hb3.size) | (go_at_call_of 12 (Value.string s); refine (str_any _ _).mono ?_; rintro e w5 ⟨rfl, hb5⟩; obtain ⟨hc5, hf5⟩ := bcell hb5; have hs5 := hb5.size; (try simp at hs5); have hz5 : w3.heap.size < w5.heap.size := (by have := hb5.size; (try simp at this); omega)) | (go_at_call_of 12 (Value.string t); refine (str_any _ _).mono ?_; rintro e w6 ⟨rfl, hb6⟩; obtain ⟨hc6, hf6⟩ := bcell hb6; have hs6 := hb6.size; (try simp at hs6); have hz6 : w3.heap.size < w6.heap.size := (by have := hb6.size; (try simp at this); omega)) | (go_at_call 11; refine (HH.out _).mono ?_; rintro e w7 ⟨rfl, hb7⟩; obtain ⟨hc7, hf7⟩ := bcell hb7; have hs7 := hb7.size; (try simp at hs7); have hz7 : w3.heap.size < w7.heap.size := (by have := hb7.size; (try simp at this); omega)) | (go_at_call 15; refine (truth_b _ _).mono ?_; rintro e w8 ⟨rfl, hb8⟩) | (go_at_call 14; refine (same_b _ _).mono ?_; rintro e w9 ⟨rfl, hb9⟩) | (go_at_call 13; refine (isTrue_1 _).mono ?_; rintro e w4 ⟨rfl, hb4⟩))
  refine wp_region_bw (by kernel_rfl) (by kernel_rfl) ?_
  repeat (go_big_quiet_step ((first | (go_at_call 15; exact bw_of (truth_c1 _ (by first | with_reducible rfl | exact he | (rw [min_size hN]; exact he)) _)) | (go_at_call 14; exact bw_of (same_b _ _)) | (go_at_call 13; exact bw_of (isTrue_1 _)))))
  refine wpQuiet_nil ?_
  intro _ hw'
  obtain ⟨pq, hw''⟩ := hw'
  subst hw''
  have hbq := pq.h
  go_wp2
  all_goals
    go_ret
    exact ⟨rfl, (by repeat (first | (with_reducible exact Below.refl _ _) | (with_reducible refine up_below ?_ (Nat.le_refl _) (by assumption)) | (with_reducible refine Below.alloc ?_ (by first | omega | (simp; omega)) _) | (with_reducible refine Below.drew ?_)))⟩

set_option maxRecDepth 100000 in
set_option maxHeartbeats 1000000 in
theorem lawHp_nay (s t : ByteArray) (h1 : (s.size : Int) ≤ 2000) (h2 : (t.size : Int) ≤ 2000) (hN : t.size ≤ s.size) (he : ((s.extract 0 t.size).toList == t.toList) = false) (HH : Hid (∀ w, Calls Tryd.prog 11 #[.agg #[.string strS, .int .i64 0, .int .u64 0, .float .f64 0, .string s], .agg #[.string strS, .int .i64 0, .int .u64 0, .float .f64 0, .string t]] w fun e w' => e = .returned (.tuple #[.agg #[.string boolS, .int .i64 0, .int .u64 0, .float .f64 0, .string empS], .int .i64 0]) ∧ Below w.heap.size w w')) (w : World) : Calls Tryd.prog 4 #[.string s, .string t] w fun e w' => e = .returned (.bool true) ∧ Below w.heap.size w w' := by
  go_enter Tryd.func4, Tryd.ntmps4
  go_wp2_with (first | (go_at_call_of 12 (Value.string ⟨#[97, 98]⟩); refine (str_any _ _).mono ?_; rintro e w1 ⟨rfl, hb1⟩; have hs1 := hb1.size) | (go_at_call_of 12 (Value.string ⟨#[97]⟩); refine (str_any _ _).mono ?_; rintro e w2 ⟨rfl, hb2⟩; have hs2 := hb2.size) | (go_at_call_of 11 (Value.string ⟨#[97, 98]⟩); refine (hp_ab _).mono ?_; rintro e w3 ⟨rfl, hb3⟩; have hs3 := hb3.size) | (go_at_call_of 12 (Value.string s); refine (str_any _ _).mono ?_; rintro e w5 ⟨rfl, hb5⟩; obtain ⟨hc5, hf5⟩ := bcell hb5; have hs5 := hb5.size; (try simp at hs5); have hz5 : w3.heap.size < w5.heap.size := (by have := hb5.size; (try simp at this); omega)) | (go_at_call_of 12 (Value.string t); refine (str_any _ _).mono ?_; rintro e w6 ⟨rfl, hb6⟩; obtain ⟨hc6, hf6⟩ := bcell hb6; have hs6 := hb6.size; (try simp at hs6); have hz6 : w3.heap.size < w6.heap.size := (by have := hb6.size; (try simp at this); omega)) | (go_at_call 11; refine (HH.out _).mono ?_; rintro e w7 ⟨rfl, hb7⟩; obtain ⟨hc7, hf7⟩ := bcell hb7; have hs7 := hb7.size; (try simp at hs7); have hz7 : w3.heap.size < w7.heap.size := (by have := hb7.size; (try simp at this); omega)) | (go_at_call 15; refine (truth_b _ _).mono ?_; rintro e w8 ⟨rfl, hb8⟩) | (go_at_call 14; refine (same_b _ _).mono ?_; rintro e w9 ⟨rfl, hb9⟩) | (go_at_call 13; refine (isTrue_1 _).mono ?_; rintro e w4 ⟨rfl, hb4⟩))
  refine wp_region_bw (by kernel_rfl) (by kernel_rfl) ?_
  repeat (go_big_quiet_step ((first | (go_at_call 15; exact bw_of (truth_c0 _ (by first | with_reducible rfl | exact he | (rw [min_size hN]; exact he)) _)) | (go_at_call 14; exact bw_of (same_b _ _)) | (go_at_call 13; exact bw_of (isTrue_1 _)))))
  refine wpQuiet_nil ?_
  intro _ hw'
  obtain ⟨pq, hw''⟩ := hw'
  subst hw''
  have hbq := pq.h
  go_wp2
  all_goals
    go_ret
    exact ⟨rfl, (by repeat (first | (with_reducible exact Below.refl _ _) | (with_reducible refine up_below ?_ (Nat.le_refl _) (by assumption)) | (with_reducible refine Below.alloc ?_ (by first | omega | (simp; omega)) _) | (with_reducible refine Below.drew ?_)))⟩

theorem lawHp_walk (s : ByteArray) (_ws : s.size ≤ maxLen) (t : ByteArray) (_wt : t.size ≤ maxLen) (a : Addr) (w : World) (_hg : Has w a) : Calls Tryd.prog 4 #[.string s, .string t] w fun e w' => e = .returned (.bool true) ∧ Below w.heap.size w w' := by
  by_cases h1 : 2147483647 < (s.size : Int)
  · exact lawHp_s s t h1 w
  by_cases h2 : 2147483647 < (t.size : Int)
  · exact lawHp_t s t (by omega) h2 w
  by_cases h3 : 2000 < (s.size : Int)
  · exact lawHp_m1 s t (by omega) (by omega) h3 w
  by_cases h4 : 2000 < (t.size : Int)
  · exact lawHp_m2 s t (by omega) (by omega) h4 w
  have hh := fun w => implHp_any s t w
  unfold preB at hh
  by_cases h5 : (t.size : Int) ≤ s.size
  · rw [decide_eq_true h5, Bool.true_and] at hh
    cases h6 : ((s.extract 0 t.size).toList == t.toList) with
    | true =>
      rw [h6] at hh
      exact lawHp_yes s t (by omega) (by omega) (by omega) h6 hh w
    | false =>
      rw [h6] at hh
      exact lawHp_nay s t (by omega) (by omega) (by omega) h6 hh w
  · rw [decide_eq_false h5, Bool.false_and] at hh
    exact lawHp_no s t (by omega) (by omega) (by omega) hh w

end Go.Proofs.YtamekjbdpcflfaaDoor
