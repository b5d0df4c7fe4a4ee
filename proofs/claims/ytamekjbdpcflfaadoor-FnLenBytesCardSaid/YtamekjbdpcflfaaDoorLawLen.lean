/-
  The walk of laws.FnLenBytes: it returns true, where the error of division by zero is as the program's text lays it. PRINTED BY wip/tpl/gen_lawlen.py.
-/
import Derived.Test.YtamekjbdpcflfaaDoorSp
import Derived.Test.YtamekjbdpcflfaaDoorIsI
namespace Go.Proofs.YtamekjbdpcflfaaDoor
open Go.RowKit

theorem len_abc (w : World) : Calls Tryd.prog 18 #[.agg #[.string strS, .int .i64 0, .int .u64 0, .float .f64 0, .string ⟨#[97, 98, 99]⟩]] w fun e w' => e = .returned (.tuple #[.agg #[.string int64S, .int .i64 3, .int .u64 0, .float .f64 0, .string empS], .int .i64 0]) ∧ Below w.heap.size w w' := by
  have h := implLen_str ⟨#[97, 98, 99]⟩ (by decide) w
  rw [show (((⟨#[97, 98, 99]⟩ : ByteArray).size : Nat) : Int) = 3 from rfl] at h
  exact h

theorem same_i (n : Int) (w : World) : Calls Tryd.prog 14 #[.agg #[.string int64S, .int .i64 n, .int .u64 0, .float .f64 0, .string empS], .agg #[.string int64S, .int .i64 n, .int .u64 0, .float .f64 0, .string empS]] w fun e w' => e = .returned (.bool true) ∧ Below w.heap.size w w' := by
  have h := same_any int64S n 0 0 empS int64S n 0 0 empS w
  rw [show sameB int64S n 0 0 empS int64S n 0 0 empS = true from by simp [sameB]] at h
  exact h

theorem same_nul (w : World) : Calls Tryd.prog 14 #[.agg #[.string ⟨#[]⟩, .int .i64 0, .int .u64 0, .float .f64 0, .string ⟨#[]⟩], .agg #[.string ⟨#[]⟩, .int .i64 0, .int .u64 0, .float .f64 0, .string ⟨#[]⟩]] w fun e w' => e = .returned (.bool true) ∧ Below w.heap.size w w' := by
  have h := same_any ⟨#[]⟩ 0 0 0 ⟨#[]⟩ ⟨#[]⟩ 0 0 0 ⟨#[]⟩ w
  rw [show sameB ⟨#[]⟩ 0 0 0 ⟨#[]⟩ ⟨#[]⟩ 0 0 0 ⟨#[]⟩ = true from by decide +kernel] at h
  exact h

set_option maxRecDepth 100000 in
set_option maxHeartbeats 1000000 in
theorem lawLen_long1 (st : ByteArray) (k : ByteArray) (n u : Int) (f : Nat) (s : ByteArray)
    (h : 2147483647 < (st.size : Int)) (w : World) :
    Calls Tryd.prog 5 #[.string st, .agg #[.string k, .int .i64 n, .int .u64 u, .float .f64 f, .string s]] w fun e w' => e = .returned (.bool true) ∧ Below w.heap.size w w' := by
  go_enter Tryd.func5, Tryd.ntmps5
  go_wp2_with (first | fail)
  all_goals
    go_ret
    exact ⟨rfl, (by repeat (first | (with_reducible exact Below.refl _ _) | (with_reducible refine up_below ?_ (Nat.le_refl _) (by assumption)) | (with_reducible refine Below.alloc ?_ (by first | omega | (simp; omega)) _) | (with_reducible refine Below.drew ?_)))⟩

set_option maxRecDepth 100000 in
set_option maxHeartbeats 1000000 in
theorem lawLen_long2 (st : ByteArray) (k : ByteArray) (n u : Int) (f : Nat) (s : ByteArray)
    (h : (st.size : Int) ≤ 2147483647) (HZ : Hid (∀ w, Calls Tryd.prog 7 #[.agg #[.string k, .int .i64 n, .int .u64 u, .float .f64 f, .string s]] w fun e w' => e = .returned (.bool false) ∧ Below w.heap.size w w')) (w : World) :
    Calls Tryd.prog 5 #[.string st, .agg #[.string k, .int .i64 n, .int .u64 u, .float .f64 f, .string s]] w fun e w' => e = .returned (.bool true) ∧ Below w.heap.size w w' := by
  go_enter Tryd.func5, Tryd.ntmps5
  go_wp2_with (first | (go_at_call 7; refine (HZ.out _).mono ?_; rintro e w1 ⟨rfl, hb1⟩; obtain ⟨hc1, hf1⟩ := bcell hb1; have hs1 := hb1.size; (try simp at hs1); have hax1 : w.heap.size < w1.heap.size := (by omega)))
  all_goals
    go_ret
    exact ⟨rfl, (by repeat (first | (with_reducible exact Below.refl _ _) | (with_reducible refine up_below ?_ (Nat.le_refl _) (by assumption)) | (with_reducible refine Below.alloc ?_ (by first | omega | (simp; omega)) _) | (with_reducible refine Below.drew ?_)))⟩

set_option maxRecDepth 100000 in
set_option maxHeartbeats 1000000 in
theorem lawLen_sp1 (st : ByteArray) (k : ByteArray) (n u : Int) (f : Nat) (s : ByteArray)
    (h : (st.size : Int) ≤ 2147483647) (h2 : 65536 < (st.size : Int)) (HZ : Hid (∀ w, Calls Tryd.prog 7 #[.agg #[.string k, .int .i64 n, .int .u64 u, .float .f64 f, .string s]] w fun e w' => e = .returned (.bool true) ∧ Below w.heap.size w w')) (w : World) :
    Calls Tryd.prog 5 #[.string st, .agg #[.string k, .int .i64 n, .int .u64 u, .float .f64 f, .string s]] w fun e w' => e = .returned (.bool true) ∧ Below w.heap.size w w' := by
  go_enter Tryd.func5, Tryd.ntmps5
  go_wp2_with (first | (go_at_call 7; refine (HZ.out _).mono ?_; rintro e w1 ⟨rfl, hb1⟩; obtain ⟨hc1, hf1⟩ := bcell hb1; have hs1 := hb1.size; (try simp at hs1); have hax1 : w.heap.size < w1.heap.size := (by omega)) | (go_at_call 17; refine (spells_any _).mono ?_; rintro e w10 ⟨rfl, hb10⟩))
  all_goals
    go_ret
    exact ⟨rfl, (by repeat (first | (with_reducible exact Below.refl _ _) | (with_reducible refine up_below ?_ (Nat.le_refl _) (by assumption)) | (with_reducible refine Below.alloc ?_ (by first | omega | (simp; omega)) _) | (with_reducible refine Below.drew ?_)))⟩

set_option maxRecDepth 100000 in
set_option maxHeartbeats 1000000 in
theorem lawLen_sp2 (st : ByteArray) (k : ByteArray) (n u : Int) (f : Nat) (s : ByteArray)
    (h : (st.size : Int) ≤ 2147483647) (h2 : (st.size : Int) ≤ 65536) (HZ : Hid (∀ w, Calls Tryd.prog 7 #[.agg #[.string k, .int .i64 n, .int .u64 u, .float .f64 f, .string s]] w fun e w' => e = .returned (.bool true) ∧ Below w.heap.size w w')) (HI : Hid (∀ w, Calls Tryd.prog 16 #[.agg #[.string k, .int .i64 n, .int .u64 u, .float .f64 f, .string s]] w fun e w' => e = .returned (.bool false) ∧ Below w.heap.size w w')) (w : World) :
    Calls Tryd.prog 5 #[.string st, .agg #[.string k, .int .i64 n, .int .u64 u, .float .f64 f, .string s]] w fun e w' => e = .returned (.bool true) ∧ Below w.heap.size w w' := by
  go_enter Tryd.func5, Tryd.ntmps5
  go_wp2_with (first | (go_at_call 7; refine (HZ.out _).mono ?_; rintro e w1 ⟨rfl, hb1⟩; obtain ⟨hc1, hf1⟩ := bcell hb1; have hs1 := hb1.size; (try simp at hs1); have hax1 : w.heap.size < w1.heap.size := (by omega)) | (go_at_call 16; refine (HI.out _).mono ?_; rintro e w2 ⟨rfl, hb2⟩; obtain ⟨hc2, hf2⟩ := bcell hb2; have hs2 := hb2.size; (try simp at hs2); have hax2 : w.heap.size < w2.heap.size := (by omega)) | (go_at_call 17; refine (spells_any _).mono ?_; rintro e w10 ⟨rfl, hb10⟩))
  all_goals
    go_ret
    exact ⟨rfl, (by repeat (first | (with_reducible exact Below.refl _ _) | (with_reducible refine up_below ?_ (Nat.le_refl _) (by assumption)) | (with_reducible refine Below.alloc ?_ (by first | omega | (simp; omega)) _) | (with_reducible refine Below.drew ?_)))⟩

set_option maxRecDepth 100000 in
set_option maxHeartbeats 1000000 in
theorem lawLen_main (st : ByteArray) (k : ByteArray) (n u : Int) (f : Nat) (s : ByteArray)
    (h : (st.size : Int) ≤ 65536) (HZ : Hid (∀ w, Calls Tryd.prog 7 #[.agg #[.string k, .int .i64 n, .int .u64 u, .float .f64 f, .string s]] w fun e w' => e = .returned (.bool true) ∧ Below w.heap.size w w')) (HI : Hid (∀ w, Calls Tryd.prog 16 #[.agg #[.string k, .int .i64 n, .int .u64 u, .float .f64 f, .string s]] w fun e w' => e = .returned (.bool true) ∧ Below w.heap.size w w'))
    (a : Addr) (HL : Hid (∀ w, Has w a → Calls Tryd.prog 18 #[.agg #[.string k, .int .i64 n, .int .u64 u, .float .f64 f, .string s]] w (NotPost w))) (w : World) (hg : Has w a) :
    Calls Tryd.prog 5 #[.string st, .agg #[.string k, .int .i64 n, .int .u64 u, .float .f64 f, .string s]] w fun e w' => e = .returned (.bool true) ∧ Below w.heap.size w w' := by
  have HG := Lib.hid hg
  clear hg
  go_enter Tryd.func5, Tryd.ntmps5
  go_wp2_with (first | (go_at_call 7; refine (HZ.out _).mono ?_; rintro e w1 ⟨rfl, hb1⟩; obtain ⟨hc1, hf1⟩ := bcell hb1; have hs1 := hb1.size; (try simp at hs1); have hax1 : w.heap.size < w1.heap.size := (by omega)) | (go_at_call 16; refine (HI.out _).mono ?_; rintro e w2 ⟨rfl, hb2⟩; obtain ⟨hc2, hf2⟩ := bcell hb2; have hs2 := hb2.size; (try simp at hs2); have hax2 : w.heap.size < w2.heap.size := (by omega)) | (go_at_call_of 12 (Value.string st); refine (str_any _ _).mono ?_; rintro e w3 ⟨rfl, hb3⟩; obtain ⟨hc3, hf3⟩ := bcell hb3; have hs3 := hb3.size; (try simp at hs3); have hax3 : w.heap.size < w3.heap.size := (by omega)) | (go_at_call_of 18 (Value.string st); refine (implLen_str st (by omega) _).mono ?_; rintro e w4 ⟨rfl, hb4⟩; obtain ⟨hc4, hf4⟩ := bcell hb4; have hs4 := hb4.size; (try simp at hs4); have hax4 : w.heap.size < w4.heap.size := (by omega)) | (go_at_call 19; refine (null_any _).mono ?_; rintro e w5 ⟨rfl, hb5⟩; obtain ⟨hc5, hf5⟩ := bcell hb5; have hs5 := hb5.size; (try simp at hs5); have hax5 : w.heap.size < w5.heap.size := (by omega); have hbx5 : w4.heap.size < w5.heap.size := (by omega)) | (go_at_call_of 18 (#[Value.agg #[.string ⟨#[]⟩, .int .i64 0, .int .u64 0, .float .f64 0, .string ⟨#[]⟩]]); refine (implLen_null _).mono ?_; rintro e w6 ⟨rfl, hb6⟩; obtain ⟨hc6, hf6⟩ := bcell hb6; have hs6 := hb6.size; (try simp at hs6); have hax6 : w.heap.size < w6.heap.size := (by omega); have hbx6 : w4.heap.size < w6.heap.size := (by omega)) | (go_at_call_of 18 (Value.string k); refine (HL.out _ (HG.out.of (by repeat (first | (with_reducible exact Below.refl _ _) | (with_reducible refine up_below ?_ (Nat.le_refl _) (by assumption)) | (with_reducible refine Below.alloc ?_ (by first | omega | (simp; omega)) _) | (with_reducible refine Below.drew ?_))))).mono ?_; rintro e w7 ⟨c, rfl, hc, hb7⟩; have hcb : (c != 0) = true := bne_iff_ne.2 hc; clear hc; obtain ⟨hc7, hf7⟩ := bcell hb7; have hs7 := hb7.size; (try simp at hs7); have hax7 : w.heap.size < w7.heap.size := (by omega); have hbx7 : w4.heap.size < w7.heap.size := (by omega); have hcx7 : w6.heap.size < w7.heap.size := (by omega)) | (go_at_call_of 12 (Value.string ⟨#[97, 98, 99]⟩); refine (str_any _ _).mono ?_; rintro e w8 ⟨rfl, hb8⟩; obtain ⟨hc8, hf8⟩ := bcell hb8; have hs8 := hb8.size; (try simp at hs8); have hax8 : w.heap.size < w8.heap.size := (by omega); have hbx8 : w4.heap.size < w8.heap.size := (by omega); have hcx8 : w6.heap.size < w8.heap.size := (by omega)) | (go_at_call_of 18 (Value.string ⟨#[97, 98, 99]⟩); refine (len_abc _).mono ?_; rintro e w9 ⟨rfl, hb9⟩; obtain ⟨hc9, hf9⟩ := bcell hb9; have hs9 := hb9.size; (try simp at hs9); have hax9 : w.heap.size < w9.heap.size := (by omega); have hbx9 : w4.heap.size < w9.heap.size := (by omega); have hcx9 : w6.heap.size < w9.heap.size := (by omega)))
  refine wp_region_bw (by kernel_rfl) (by kernel_rfl) ?_
  repeat (go_big_quiet_step ((first | (go_at_call_of 14 (Value.string int64S); exact bw_of (same_i _ _)) | (go_at_call 14; exact bw_of (same_nul _)) | (go_at_call 9; exact bw_of (num_any _ _)) | (go_at_call 19; exact bw_of (null_any _)))))
  refine wpQuiet_nil ?_
  intro _ hw'
  obtain ⟨pq, hw''⟩ := hw'
  subst hw''
  have hbq := pq.h
  go_wp2
  all_goals
    go_ret
    exact ⟨rfl, (by repeat (first | (with_reducible exact Below.refl _ _) | (with_reducible refine up_below ?_ (Nat.le_refl _) (by assumption)) | (with_reducible refine Below.alloc ?_ (by first | omega | (simp; omega)) _) | (with_reducible refine Below.drew ?_)))⟩

theorem lawLen_walk (st : ByteArray) (_ws : st.size ≤ maxLen) (k : ByteArray) (n u : Int) (f : Nat) (s : ByteArray) (hr : Rng n u f) (a : Addr) (w : World) (hg : Has w a) : Calls Tryd.prog 5 #[.string st, .agg #[.string k, .int .i64 n, .int .u64 u, .float .f64 f, .string s]] w fun e w' => e = .returned (.bool true) ∧ Below w.heap.size w w' := by
  by_cases h1 : 2147483647 < (st.size : Int)
  · exact lawLen_long1 st k n u f s h1 w
  have hz := fun w => zzFits1_any k n u f s w
  cases h2 : fitsB k s with
  | false =>
    rw [h2] at hz
    exact lawLen_long2 st k n u f s (by omega) hz w
  | true =>
  rw [h2] at hz
  by_cases h3 : 65536 < (st.size : Int)
  · exact lawLen_sp1 st k n u f s (by omega) h3 hz w
  have hi := fun w => isInteger_any k n u f s w
  cases h4 : decide (0 < (Kd.of k.toList).width) && concB (Kd.of k.toList) n u f s with
  | false =>
    rw [h4] at hi
    exact lawLen_sp2 st k n u f s (by omega) (by omega) hz hi w
  | true =>
  rw [h4] at hi
  rw [Bool.and_eq_true, decide_eq_true_eq] at h4
  have hv := conc_valid h4.2
  have hq : ∃ q, Kd.of k.toList = .int q := by
    obtain ⟨h5, h6⟩ := h4
    unfold concB at h6
    simp only [Bool.and_eq_true, Bool.not_eq_true'] at h6
    have h7 := h6.1.2
    clear hi hv h6
    generalize Kd.of k.toList = K at *
    cases K with
    | int q => exact ⟨q, rfl⟩
    | _ => first | exact absurd h5 (by decide) | exact absurd h7 (by decide)
  obtain ⟨q, hk⟩ := hq
  exact lawLen_main st k n u f s (by omega) hz hi a (fun w hg => implLen_int k n u f s hr hv q hk a w hg) w hg

end Go.Proofs.YtamekjbdpcflfaaDoor
