/-
  The walk of laws.FnLimOffRefuses: it returns true, where the error of division by zero is as the program's text lays it. PRINTED BY wip/tpl/gen_lim.py.
-/
import Derived.Test.YtamekjbdpcflfaaDoorLim
namespace Go.Proofs.YtamekjbdpcflfaaDoor
open Go.RowKit

set_option maxRecDepth 100000 in
set_option maxHeartbeats 1000000 in
theorem lawLim_long (k : ByteArray) (n u : Int) (f : Nat) (s : ByteArray)
    (HZ : Hid (∀ w, Calls Tryd.prog 7 #[.agg #[.string k, .int .i64 n, .int .u64 u, .float .f64 f, .string s]] w fun e w' => e = .returned (.bool false) ∧ Below w.heap.size w w')) (w : World) :
    Calls Tryd.prog 3 #[.agg #[.string k, .int .i64 n, .int .u64 u, .float .f64 f, .string s]] w fun e w' => e = .returned (.bool true) ∧ Below w.heap.size w w' := by
  go_enter Tryd.func3, Tryd.ntmps3
  go_wp2_with (first | (go_at_call 7; refine (HZ.out _).mono ?_; rintro e w1 ⟨rfl, hb1⟩; obtain ⟨hc1, hf1⟩ := bcell hb1; have hz1 : w.heap.size < w1.heap.size := (by have := hb1.size; (try simp at this); omega)))
  go_ret
  exact ⟨rfl, by repeat (first | exact Below.refl _ _ | exact (Below.refl _ _).alloc (Nat.le_refl _) _ | refine Below.drew ?_ | refine below_drewN ?_ _ | refine up_below ?_ (Nat.le_refl _) (by assumption))⟩

set_option maxRecDepth 100000 in
set_option maxHeartbeats 1000000 in
theorem lawLim_not (k : ByteArray) (n u : Int) (f : Nat) (s : ByteArray)
    (HZ : Hid (∀ w, Calls Tryd.prog 7 #[.agg #[.string k, .int .i64 n, .int .u64 u, .float .f64 f, .string s]] w fun e w' => e = .returned (.bool true) ∧ Below w.heap.size w w')) (HC : Hid (∀ w, Calls Tryd.prog 10 #[.agg #[.string k, .int .i64 n, .int .u64 u, .float .f64 f, .string s]] w fun e w' => e = .returned (.bool false) ∧ Below w.heap.size w w')) (w : World) :
    Calls Tryd.prog 3 #[.agg #[.string k, .int .i64 n, .int .u64 u, .float .f64 f, .string s]] w fun e w' => e = .returned (.bool true) ∧ Below w.heap.size w w' := by
  go_enter Tryd.func3, Tryd.ntmps3
  go_wp2_with (first | (go_at_call 7; refine (HZ.out _).mono ?_; rintro e w1 ⟨rfl, hb1⟩; obtain ⟨hc1, hf1⟩ := bcell hb1; have hz1 : w.heap.size < w1.heap.size := (by have := hb1.size; (try simp at this); omega)) | (go_at_call 9; refine (num_any _ _).mono ?_; rintro e w2 ⟨rfl, hb2⟩; obtain ⟨hc2, hf2⟩ := bcell hb2; have hz2 : w.heap.size < w2.heap.size := (by have := hb2.size; (try simp at this); omega)) | (go_at_call_of 8 (Value.int .i64 1); refine (limOff_one _).mono ?_; rintro e w3 ⟨rfl, hb3⟩; obtain ⟨hc3, hf3⟩ := bcell hb3; have hz3 : w.heap.size < w3.heap.size := (by have := hb3.size; (try simp at this); omega)) | (go_at_call 10; refine (HC.out _).mono ?_; rintro e w4 ⟨rfl, hb4⟩; obtain ⟨hc4, hf4⟩ := bcell hb4; have hz4 : w.heap.size < w4.heap.size := (by have := hb4.size; (try simp at this); omega)))
  go_ret
  exact ⟨rfl, by repeat (first | exact Below.refl _ _ | exact (Below.refl _ _).alloc (Nat.le_refl _) _ | refine Below.drew ?_ | refine below_drewN ?_ _ | refine up_below ?_ (Nat.le_refl _) (by assumption))⟩

set_option maxRecDepth 100000 in
set_option maxHeartbeats 1000000 in
theorem lawLim_other (k : ByteArray) (n u : Int) (f : Nat) (s : ByteArray)
    (h1 : (k.toList == [115, 116, 114, 105, 110, 103]) = false) (h2 : (k.toList == [98, 111, 111, 108]) = false) (h3 : (k.toList == [98, 108, 111, 98]) = false) (HZ : Hid (∀ w, Calls Tryd.prog 7 #[.agg #[.string k, .int .i64 n, .int .u64 u, .float .f64 f, .string s]] w fun e w' => e = .returned (.bool true) ∧ Below w.heap.size w w')) (HC : Hid (∀ w, Calls Tryd.prog 10 #[.agg #[.string k, .int .i64 n, .int .u64 u, .float .f64 f, .string s]] w fun e w' => e = .returned (.bool true) ∧ Below w.heap.size w w')) (w : World) :
    Calls Tryd.prog 3 #[.agg #[.string k, .int .i64 n, .int .u64 u, .float .f64 f, .string s]] w fun e w' => e = .returned (.bool true) ∧ Below w.heap.size w w' := by
  go_enter Tryd.func3, Tryd.ntmps3
  go_wp2_with (first | (go_at_call 7; refine (HZ.out _).mono ?_; rintro e w1 ⟨rfl, hb1⟩; obtain ⟨hc1, hf1⟩ := bcell hb1; have hz1 : w.heap.size < w1.heap.size := (by have := hb1.size; (try simp at this); omega)) | (go_at_call 9; refine (num_any _ _).mono ?_; rintro e w2 ⟨rfl, hb2⟩; obtain ⟨hc2, hf2⟩ := bcell hb2; have hz2 : w.heap.size < w2.heap.size := (by have := hb2.size; (try simp at this); omega)) | (go_at_call_of 8 (Value.int .i64 1); refine (limOff_one _).mono ?_; rintro e w3 ⟨rfl, hb3⟩; obtain ⟨hc3, hf3⟩ := bcell hb3; have hz3 : w.heap.size < w3.heap.size := (by have := hb3.size; (try simp at this); omega)) | (go_at_call 10; refine (HC.out _).mono ?_; rintro e w4 ⟨rfl, hb4⟩; obtain ⟨hc4, hf4⟩ := bcell hb4; have hz4 : w.heap.size < w4.heap.size := (by have := hb4.size; (try simp at this); omega)))
  go_ret
  exact ⟨rfl, by repeat (first | exact Below.refl _ _ | exact (Below.refl _ _).alloc (Nat.le_refl _) _ | refine Below.drew ?_ | refine below_drewN ?_ _ | refine up_below ?_ (Nat.le_refl _) (by assumption))⟩

set_option maxRecDepth 100000 in
set_option maxHeartbeats 1000000 in
theorem lawLim_string (k : ByteArray) (n u : Int) (f : Nat) (s : ByteArray) (a : Addr)
    (h1 : k.toList = [115, 116, 114, 105, 110, 103]) (HZ : Hid (∀ w, Calls Tryd.prog 7 #[.agg #[.string k, .int .i64 n, .int .u64 u, .float .f64 f, .string s]] w fun e w' => e = .returned (.bool true) ∧ Below w.heap.size w w')) (HC : Hid (∀ w, Calls Tryd.prog 10 #[.agg #[.string k, .int .i64 n, .int .u64 u, .float .f64 f, .string s]] w fun e w' => e = .returned (.bool true) ∧ Below w.heap.size w w')) (HN : Hid (∀ w, Has w a → Calls Tryd.prog 8 #[.agg #[.string k, .int .i64 n, .int .u64 u, .float .f64 f, .string s]] w (NoPost w))) (w : World) (hg : Has w a) :
    Calls Tryd.prog 3 #[.agg #[.string k, .int .i64 n, .int .u64 u, .float .f64 f, .string s]] w fun e w' => e = .returned (.bool true) ∧ Below w.heap.size w w' := by
  have HG := Lib.hid hg
  clear hg
  go_enter Tryd.func3, Tryd.ntmps3
  go_wp2_with (first | (go_at_call 7; refine (HZ.out _).mono ?_; rintro e w1 ⟨rfl, hb1⟩; obtain ⟨hc1, hf1⟩ := bcell hb1; have hz1 : w.heap.size < w1.heap.size := (by have := hb1.size; (try simp at this); omega)) | (go_at_call 9; refine (num_any _ _).mono ?_; rintro e w2 ⟨rfl, hb2⟩; obtain ⟨hc2, hf2⟩ := bcell hb2; have hz2 : w.heap.size < w2.heap.size := (by have := hb2.size; (try simp at this); omega)) | (go_at_call_of 8 (Value.int .i64 1); refine (limOff_one _).mono ?_; rintro e w3 ⟨rfl, hb3⟩; obtain ⟨hc3, hf3⟩ := bcell hb3; have hz3 : w.heap.size < w3.heap.size := (by have := hb3.size; (try simp at this); omega)) | (go_at_call 10; refine (HC.out _).mono ?_; rintro e w4 ⟨rfl, hb4⟩; obtain ⟨hc4, hf4⟩ := bcell hb4; have hz4 : w.heap.size < w4.heap.size := (by have := hb4.size; (try simp at this); omega)) | (go_at_call 8; refine (HN.out _ (HG.out.of (by repeat (first | exact Below.refl _ _ | exact (Below.refl _ _).alloc (Nat.le_refl _) _ | refine Below.drew ?_ | refine below_drewN ?_ _ | refine up_below ?_ (Nat.le_refl _) (by assumption))))).mono ?_; rintro e w5 ⟨c, rfl, hc, hb5⟩; have hcb : (c != 0) = true := bne_iff_ne.2 hc; clear hc))
  go_ret
  exact ⟨rfl, by repeat (first | exact Below.refl _ _ | exact (Below.refl _ _).alloc (Nat.le_refl _) _ | refine Below.drew ?_ | refine below_drewN ?_ _ | refine up_below ?_ (Nat.le_refl _) (by assumption))⟩

set_option maxRecDepth 100000 in
set_option maxHeartbeats 1000000 in
theorem lawLim_bool (k : ByteArray) (n u : Int) (f : Nat) (s : ByteArray) (a : Addr)
    (h1 : k.toList = [98, 111, 111, 108]) (HZ : Hid (∀ w, Calls Tryd.prog 7 #[.agg #[.string k, .int .i64 n, .int .u64 u, .float .f64 f, .string s]] w fun e w' => e = .returned (.bool true) ∧ Below w.heap.size w w')) (HC : Hid (∀ w, Calls Tryd.prog 10 #[.agg #[.string k, .int .i64 n, .int .u64 u, .float .f64 f, .string s]] w fun e w' => e = .returned (.bool true) ∧ Below w.heap.size w w')) (HN : Hid (∀ w, Has w a → Calls Tryd.prog 8 #[.agg #[.string k, .int .i64 n, .int .u64 u, .float .f64 f, .string s]] w (NoPost w))) (w : World) (hg : Has w a) :
    Calls Tryd.prog 3 #[.agg #[.string k, .int .i64 n, .int .u64 u, .float .f64 f, .string s]] w fun e w' => e = .returned (.bool true) ∧ Below w.heap.size w w' := by
  have HG := Lib.hid hg
  clear hg
  go_enter Tryd.func3, Tryd.ntmps3
  go_wp2_with (first | (go_at_call 7; refine (HZ.out _).mono ?_; rintro e w1 ⟨rfl, hb1⟩; obtain ⟨hc1, hf1⟩ := bcell hb1; have hz1 : w.heap.size < w1.heap.size := (by have := hb1.size; (try simp at this); omega)) | (go_at_call 9; refine (num_any _ _).mono ?_; rintro e w2 ⟨rfl, hb2⟩; obtain ⟨hc2, hf2⟩ := bcell hb2; have hz2 : w.heap.size < w2.heap.size := (by have := hb2.size; (try simp at this); omega)) | (go_at_call_of 8 (Value.int .i64 1); refine (limOff_one _).mono ?_; rintro e w3 ⟨rfl, hb3⟩; obtain ⟨hc3, hf3⟩ := bcell hb3; have hz3 : w.heap.size < w3.heap.size := (by have := hb3.size; (try simp at this); omega)) | (go_at_call 10; refine (HC.out _).mono ?_; rintro e w4 ⟨rfl, hb4⟩; obtain ⟨hc4, hf4⟩ := bcell hb4; have hz4 : w.heap.size < w4.heap.size := (by have := hb4.size; (try simp at this); omega)) | (go_at_call 8; refine (HN.out _ (HG.out.of (by repeat (first | exact Below.refl _ _ | exact (Below.refl _ _).alloc (Nat.le_refl _) _ | refine Below.drew ?_ | refine below_drewN ?_ _ | refine up_below ?_ (Nat.le_refl _) (by assumption))))).mono ?_; rintro e w5 ⟨c, rfl, hc, hb5⟩; have hcb : (c != 0) = true := bne_iff_ne.2 hc; clear hc))
  go_ret
  exact ⟨rfl, by repeat (first | exact Below.refl _ _ | exact (Below.refl _ _).alloc (Nat.le_refl _) _ | refine Below.drew ?_ | refine below_drewN ?_ _ | refine up_below ?_ (Nat.le_refl _) (by assumption))⟩

set_option maxRecDepth 100000 in
set_option maxHeartbeats 1000000 in
theorem lawLim_blob (k : ByteArray) (n u : Int) (f : Nat) (s : ByteArray) (a : Addr)
    (h1 : k.toList = [98, 108, 111, 98]) (HZ : Hid (∀ w, Calls Tryd.prog 7 #[.agg #[.string k, .int .i64 n, .int .u64 u, .float .f64 f, .string s]] w fun e w' => e = .returned (.bool true) ∧ Below w.heap.size w w')) (HC : Hid (∀ w, Calls Tryd.prog 10 #[.agg #[.string k, .int .i64 n, .int .u64 u, .float .f64 f, .string s]] w fun e w' => e = .returned (.bool true) ∧ Below w.heap.size w w')) (HN : Hid (∀ w, Has w a → Calls Tryd.prog 8 #[.agg #[.string k, .int .i64 n, .int .u64 u, .float .f64 f, .string s]] w (NoPost w))) (w : World) (hg : Has w a) :
    Calls Tryd.prog 3 #[.agg #[.string k, .int .i64 n, .int .u64 u, .float .f64 f, .string s]] w fun e w' => e = .returned (.bool true) ∧ Below w.heap.size w w' := by
  have HG := Lib.hid hg
  clear hg
  go_enter Tryd.func3, Tryd.ntmps3
  go_wp2_with (first | (go_at_call 7; refine (HZ.out _).mono ?_; rintro e w1 ⟨rfl, hb1⟩; obtain ⟨hc1, hf1⟩ := bcell hb1; have hz1 : w.heap.size < w1.heap.size := (by have := hb1.size; (try simp at this); omega)) | (go_at_call 9; refine (num_any _ _).mono ?_; rintro e w2 ⟨rfl, hb2⟩; obtain ⟨hc2, hf2⟩ := bcell hb2; have hz2 : w.heap.size < w2.heap.size := (by have := hb2.size; (try simp at this); omega)) | (go_at_call_of 8 (Value.int .i64 1); refine (limOff_one _).mono ?_; rintro e w3 ⟨rfl, hb3⟩; obtain ⟨hc3, hf3⟩ := bcell hb3; have hz3 : w.heap.size < w3.heap.size := (by have := hb3.size; (try simp at this); omega)) | (go_at_call 10; refine (HC.out _).mono ?_; rintro e w4 ⟨rfl, hb4⟩; obtain ⟨hc4, hf4⟩ := bcell hb4; have hz4 : w.heap.size < w4.heap.size := (by have := hb4.size; (try simp at this); omega)) | (go_at_call 8; refine (HN.out _ (HG.out.of (by repeat (first | exact Below.refl _ _ | exact (Below.refl _ _).alloc (Nat.le_refl _) _ | refine Below.drew ?_ | refine below_drewN ?_ _ | refine up_below ?_ (Nat.le_refl _) (by assumption))))).mono ?_; rintro e w5 ⟨c, rfl, hc, hb5⟩; have hcb : (c != 0) = true := bne_iff_ne.2 hc; clear hc))
  go_ret
  exact ⟨rfl, by repeat (first | exact Below.refl _ _ | exact (Below.refl _ _).alloc (Nat.le_refl _) _ | refine Below.drew ?_ | refine below_drewN ?_ _ | refine up_below ?_ (Nat.le_refl _) (by assumption))⟩

theorem lawLim_walk (k : ByteArray) (n u : Int) (f : Nat) (s : ByteArray) (hr : Rng n u f) (a : Addr) (w : World) (hg : Has w a) :
    Calls Tryd.prog 3 #[.agg #[.string k, .int .i64 n, .int .u64 u, .float .f64 f, .string s]] w fun e w' => e = .returned (.bool true) ∧ Below w.heap.size w w' := by
  have hz := fun w => zzFits1_any k n u f s w
  cases h1 : fitsB k s with
  | false =>
    rw [h1] at hz
    exact lawLim_long k n u f s hz w
  | true =>
  rw [h1] at hz
  have hc := fun w => concrete_any k n u f s w
  cases h2 : concB (Kd.of k.toList) n u f s with
  | false =>
    rw [h2] at hc
    exact lawLim_not k n u f s hz hc w
  | true =>
  rw [h2] at hc
  have hv := conc_valid h2
  have hn := fun (hk : Kd.of k.toList = .bool ∨ Kd.of k.toList = .str ∨ Kd.of k.toList = .blob) w (hg : Has w a) => limOff_refused k n u f s hr hv hk a w hg
  by_cases k1 : k.toList = [115, 116, 114, 105, 110, 103]
  · exact lawLim_string k n u f s a k1 hz hc (hn (by rw [k1]; exact .inr (.inl (by decide +kernel)))) w hg
  by_cases k2 : k.toList = [98, 111, 111, 108]
  · exact lawLim_bool k n u f s a k2 hz hc (hn (by rw [k2]; exact .inl (by decide +kernel))) w hg
  by_cases k3 : k.toList = [98, 108, 111, 98]
  · exact lawLim_blob k n u f s a k3 hz hc (hn (by rw [k3]; exact .inr (.inr (by decide +kernel)))) w hg
  exact lawLim_other k n u f s (beq_eq_false_iff_ne.2 k1) (beq_eq_false_iff_ne.2 k2) (beq_eq_false_iff_ne.2 k3) hz hc w

end Go.Proofs.YtamekjbdpcflfaaDoor
