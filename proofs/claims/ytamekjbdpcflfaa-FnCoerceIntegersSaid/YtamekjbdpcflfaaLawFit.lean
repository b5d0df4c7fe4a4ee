/-
  The walk of laws.FnFitsTypes: it returns true. PRINTED BY wip/tpl/gen_lawfit.py.
-/
import Derived.Test.YtamekjbdpcflfaaFit
namespace Go.Proofs.Ytamekjbdpcflfaa
open Go.RowKit

def int8S : ByteArray := ⟨#[105, 110, 116, 56]⟩
theorem fits_5 (w : World) : Calls Try.prog 20 #[.agg #[.string idealIntS, .int .i64 5, .int .u64 0, .float .f64 0, .string empS], .string int8S] w fun e w' => e = .returned (.bool true) ∧ Below w.heap.size w w' := by
  have h := fits_any 5 (by omega) (by omega) int8S .i8 (by decide +kernel) w
  rw [show fitI .i8 5 = true from by decide] at h
  exact h
theorem fits_300 (w : World) : Calls Try.prog 20 #[.agg #[.string idealIntS, .int .i64 300, .int .u64 0, .float .f64 0, .string empS], .string int8S] w fun e w' => e = .returned (.bool false) ∧ Below w.heap.size w w' := by
  have h := fits_any 300 (by omega) (by omega) int8S .i8 (by decide +kernel) w
  rw [show fitI .i8 300 = false from by decide] at h
  exact h

set_option maxRecDepth 100000 in
set_option maxHeartbeats 1000000 in
theorem lawFit_out (n c : Int) 
    (h : c < 0 ∨ 13 ≤ c) (w : World) :
    Calls Try.prog 6 #[.int .i64 n, .int .i64 c] w fun e w' => e = .returned (.bool true) ∧ Below w.heap.size w w' := by
  have hcell0 : ∀ (w1 : World) (b : Nat), (∀ j, j < 13 → w1.cell? ⟨b, j, none⟩ = some (.string (kname j))) → True := fun _ _ _ => trivial
  by_cases h1 : c < 0
  · clear h
    go_enter Try.func6, Try.ntmps6
    go_wp2_with (first | (go_at_call 19; refine (kinds_any _).mono ?_; rintro e w1 ⟨b, rfl, hlo, hz1, hb1, hcell⟩; have hj1 := hcell0 w1 b hcell; clear hcell) | (go_at_call_of 20 (Value.int .i64 5); refine (fits_5 _).mono ?_; rintro e w2 ⟨rfl, hb2⟩; obtain ⟨hc2, hf2⟩ := bcell hb2; have hz2 : b < w2.heap.size := (by have := hb2.size; (try simp at this); omega)) | (go_at_call_of 20 (Value.int .i64 300); refine (fits_300 _).mono ?_; rintro e w3 ⟨rfl, hb3⟩; obtain ⟨hc3, hf3⟩ := bcell hb3; have hz3 : b < w3.heap.size := (by have := hb3.size; (try simp at this); omega)))
    go_ret
    exact ⟨rfl, by repeat (first | exact Below.refl _ _ | exact (Below.refl _ _).alloc (Nat.le_refl _) _ | refine Below.drew ?_ | refine below_drewN ?_ _ | exact hb1 | refine up_below ?_ (Nat.le_refl _) (by assumption))⟩
  · have h2 : 13 ≤ c := by omega
    clear h
    go_enter Try.func6, Try.ntmps6
    go_wp2_with (first | (go_at_call 19; refine (kinds_any _).mono ?_; rintro e w1 ⟨b, rfl, hlo, hz1, hb1, hcell⟩; have hj1 := hcell0 w1 b hcell; clear hcell) | (go_at_call_of 20 (Value.int .i64 5); refine (fits_5 _).mono ?_; rintro e w2 ⟨rfl, hb2⟩; obtain ⟨hc2, hf2⟩ := bcell hb2; have hz2 : b < w2.heap.size := (by have := hb2.size; (try simp at this); omega)) | (go_at_call_of 20 (Value.int .i64 300); refine (fits_300 _).mono ?_; rintro e w3 ⟨rfl, hb3⟩; obtain ⟨hc3, hf3⟩ := bcell hb3; have hz3 : b < w3.heap.size := (by have := hb3.size; (try simp at this); omega)))
    go_ret
    exact ⟨rfl, by repeat (first | exact Below.refl _ _ | exact (Below.refl _ _).alloc (Nat.le_refl _) _ | refine Below.drew ?_ | refine below_drewN ?_ _ | exact hb1 | refine up_below ?_ (Nat.le_refl _) (by assumption))⟩

set_option maxRecDepth 100000 in
set_option maxHeartbeats 1000000 in
theorem lawFit_no (n c : Int) (k : ByteArray) (h1 : 0 ≤ c) (h2 : c < 13) (hk : kname c.toNat = k) (sg : Bool)
    (HW : Hid (∀ w, Calls Try.prog 21 #[.string k] w fun e w' => e = .returned (.tuple #[.int .i64 0, .bool sg]) ∧ w = w')) (w : World) :
    Calls Try.prog 6 #[.int .i64 n, .int .i64 c] w fun e w' => e = .returned (.bool true) ∧ Below w.heap.size w w' := by
  have hcell0 : ∀ (w1 : World) (b : Nat), (∀ j, j < 13 → w1.cell? ⟨b, j, none⟩ = some (.string (kname j))) → w1.cell? ⟨b, c.toNat, none⟩ = some (.string k) := fun w1 b h => by rw [h c.toNat (by omega), hk]
  clear hk
  go_enter Try.func6, Try.ntmps6
  go_wp2_with (first | (go_at_call 19; refine (kinds_any _).mono ?_; rintro e w1 ⟨b, rfl, hlo, hz1, hb1, hcell⟩; have hj1 := hcell0 w1 b hcell; clear hcell) | (go_at_call_of 20 (Value.int .i64 5); refine (fits_5 _).mono ?_; rintro e w2 ⟨rfl, hb2⟩; obtain ⟨hc2, hf2⟩ := bcell hb2; have hz2 : b < w2.heap.size := (by have := hb2.size; (try simp at this); omega)) | (go_at_call_of 20 (Value.int .i64 300); refine (fits_300 _).mono ?_; rintro e w3 ⟨rfl, hb3⟩; obtain ⟨hc3, hf3⟩ := bcell hb3; have hz3 : b < w3.heap.size := (by have := hb3.size; (try simp at this); omega)) | (go_at_call 21; refine (HW.out _).mono ?_; rintro e w4 ⟨rfl, rfl⟩))
  go_ret
  exact ⟨rfl, by repeat (first | exact Below.refl _ _ | exact (Below.refl _ _).alloc (Nat.le_refl _) _ | refine Below.drew ?_ | refine below_drewN ?_ _ | exact hb1 | refine up_below ?_ (Nat.le_refl _) (by assumption))⟩

set_option maxRecDepth 100000 in
set_option maxHeartbeats 1000000 in
theorem lawFit_i8_pos (n c : Int) (k : ByteArray) (h1 : 0 ≤ c) (h2 : c < 13) (hk : kname c.toNat = k) (fb : Bool) (h0 : 0 ≤ n)
    (hfin : (fb == (n / 128 == n / 9223372036854775808)) = true) (HW : Hid (∀ w, Calls Try.prog 21 #[.string k] w fun e w' => e = .returned (.tuple #[.int .i64 8, .bool true]) ∧ w = w'))
    (HN : Hid (∀ w, Calls Try.prog 20 #[.agg #[.string idealIntS, .int .i64 n, .int .u64 0, .float .f64 0, .string empS], .string k] w fun e w' => e = .returned (.bool fb) ∧ Below w.heap.size w w')) (w : World) :
    Calls Try.prog 6 #[.int .i64 n, .int .i64 c] w fun e w' => e = .returned (.bool true) ∧ Below w.heap.size w w' := by
  have hcell0 : ∀ (w1 : World) (b : Nat), (∀ j, j < 13 → w1.cell? ⟨b, j, none⟩ = some (.string (kname j))) → w1.cell? ⟨b, c.toNat, none⟩ = some (.string k) := fun w1 b h => by rw [h c.toNat (by omega), hk]
  clear hk
  go_enter Try.func6, Try.ntmps6
  go_wp2_with (first | (go_at_call 19; refine (kinds_any _).mono ?_; rintro e w1 ⟨b, rfl, hlo, hz1, hb1, hcell⟩; have hj1 := hcell0 w1 b hcell; clear hcell) | (go_at_call_of 20 (Value.int .i64 5); refine (fits_5 _).mono ?_; rintro e w2 ⟨rfl, hb2⟩; obtain ⟨hc2, hf2⟩ := bcell hb2; have hz2 : b < w2.heap.size := (by have := hb2.size; (try simp at this); omega)) | (go_at_call_of 20 (Value.int .i64 300); refine (fits_300 _).mono ?_; rintro e w3 ⟨rfl, hb3⟩; obtain ⟨hc3, hf3⟩ := bcell hb3; have hz3 : b < w3.heap.size := (by have := hb3.size; (try simp at this); omega)) | (go_at_call 21; refine (HW.out _).mono ?_; rintro e w4 ⟨rfl, rfl⟩) | (go_at_call 20; refine (HN.out _).mono ?_; rintro e w5 ⟨rfl, hb5⟩))
  go_ret
  exact ⟨rfl, by repeat (first | exact Below.refl _ _ | exact (Below.refl _ _).alloc (Nat.le_refl _) _ | refine Below.drew ?_ | refine below_drewN ?_ _ | exact hb1 | refine up_below ?_ (Nat.le_refl _) (by assumption))⟩

set_option maxRecDepth 100000 in
set_option maxHeartbeats 1000000 in
theorem lawFit_i8_neg (n c : Int) (k : ByteArray) (h1 : 0 ≤ c) (h2 : c < 13) (hk : kname c.toNat = k) (fb : Bool) (h0 : n < 0)
    (hfin : (fb == (n / 128 == n / 9223372036854775808)) = true) (HW : Hid (∀ w, Calls Try.prog 21 #[.string k] w fun e w' => e = .returned (.tuple #[.int .i64 8, .bool true]) ∧ w = w'))
    (HN : Hid (∀ w, Calls Try.prog 20 #[.agg #[.string idealIntS, .int .i64 n, .int .u64 0, .float .f64 0, .string empS], .string k] w fun e w' => e = .returned (.bool fb) ∧ Below w.heap.size w w')) (w : World) :
    Calls Try.prog 6 #[.int .i64 n, .int .i64 c] w fun e w' => e = .returned (.bool true) ∧ Below w.heap.size w w' := by
  have hcell0 : ∀ (w1 : World) (b : Nat), (∀ j, j < 13 → w1.cell? ⟨b, j, none⟩ = some (.string (kname j))) → w1.cell? ⟨b, c.toNat, none⟩ = some (.string k) := fun w1 b h => by rw [h c.toNat (by omega), hk]
  clear hk
  go_enter Try.func6, Try.ntmps6
  go_wp2_with (first | (go_at_call 19; refine (kinds_any _).mono ?_; rintro e w1 ⟨b, rfl, hlo, hz1, hb1, hcell⟩; have hj1 := hcell0 w1 b hcell; clear hcell) | (go_at_call_of 20 (Value.int .i64 5); refine (fits_5 _).mono ?_; rintro e w2 ⟨rfl, hb2⟩; obtain ⟨hc2, hf2⟩ := bcell hb2; have hz2 : b < w2.heap.size := (by have := hb2.size; (try simp at this); omega)) | (go_at_call_of 20 (Value.int .i64 300); refine (fits_300 _).mono ?_; rintro e w3 ⟨rfl, hb3⟩; obtain ⟨hc3, hf3⟩ := bcell hb3; have hz3 : b < w3.heap.size := (by have := hb3.size; (try simp at this); omega)) | (go_at_call 21; refine (HW.out _).mono ?_; rintro e w4 ⟨rfl, rfl⟩) | (go_at_call 20; refine (HN.out _).mono ?_; rintro e w5 ⟨rfl, hb5⟩))
  go_ret
  exact ⟨rfl, by repeat (first | exact Below.refl _ _ | exact (Below.refl _ _).alloc (Nat.le_refl _) _ | refine Below.drew ?_ | refine below_drewN ?_ _ | exact hb1 | refine up_below ?_ (Nat.le_refl _) (by assumption))⟩

set_option maxRecDepth 100000 in
set_option maxHeartbeats 1000000 in
theorem lawFit_i16_pos (n c : Int) (k : ByteArray) (h1 : 0 ≤ c) (h2 : c < 13) (hk : kname c.toNat = k) (fb : Bool) (h0 : 0 ≤ n)
    (hfin : (fb == (n / 32768 == n / 9223372036854775808)) = true) (HW : Hid (∀ w, Calls Try.prog 21 #[.string k] w fun e w' => e = .returned (.tuple #[.int .i64 16, .bool true]) ∧ w = w'))
    (HN : Hid (∀ w, Calls Try.prog 20 #[.agg #[.string idealIntS, .int .i64 n, .int .u64 0, .float .f64 0, .string empS], .string k] w fun e w' => e = .returned (.bool fb) ∧ Below w.heap.size w w')) (w : World) :
    Calls Try.prog 6 #[.int .i64 n, .int .i64 c] w fun e w' => e = .returned (.bool true) ∧ Below w.heap.size w w' := by
  have hcell0 : ∀ (w1 : World) (b : Nat), (∀ j, j < 13 → w1.cell? ⟨b, j, none⟩ = some (.string (kname j))) → w1.cell? ⟨b, c.toNat, none⟩ = some (.string k) := fun w1 b h => by rw [h c.toNat (by omega), hk]
  clear hk
  go_enter Try.func6, Try.ntmps6
  go_wp2_with (first | (go_at_call 19; refine (kinds_any _).mono ?_; rintro e w1 ⟨b, rfl, hlo, hz1, hb1, hcell⟩; have hj1 := hcell0 w1 b hcell; clear hcell) | (go_at_call_of 20 (Value.int .i64 5); refine (fits_5 _).mono ?_; rintro e w2 ⟨rfl, hb2⟩; obtain ⟨hc2, hf2⟩ := bcell hb2; have hz2 : b < w2.heap.size := (by have := hb2.size; (try simp at this); omega)) | (go_at_call_of 20 (Value.int .i64 300); refine (fits_300 _).mono ?_; rintro e w3 ⟨rfl, hb3⟩; obtain ⟨hc3, hf3⟩ := bcell hb3; have hz3 : b < w3.heap.size := (by have := hb3.size; (try simp at this); omega)) | (go_at_call 21; refine (HW.out _).mono ?_; rintro e w4 ⟨rfl, rfl⟩) | (go_at_call 20; refine (HN.out _).mono ?_; rintro e w5 ⟨rfl, hb5⟩))
  go_ret
  exact ⟨rfl, by repeat (first | exact Below.refl _ _ | exact (Below.refl _ _).alloc (Nat.le_refl _) _ | refine Below.drew ?_ | refine below_drewN ?_ _ | exact hb1 | refine up_below ?_ (Nat.le_refl _) (by assumption))⟩

set_option maxRecDepth 100000 in
set_option maxHeartbeats 1000000 in
theorem lawFit_i16_neg (n c : Int) (k : ByteArray) (h1 : 0 ≤ c) (h2 : c < 13) (hk : kname c.toNat = k) (fb : Bool) (h0 : n < 0)
    (hfin : (fb == (n / 32768 == n / 9223372036854775808)) = true) (HW : Hid (∀ w, Calls Try.prog 21 #[.string k] w fun e w' => e = .returned (.tuple #[.int .i64 16, .bool true]) ∧ w = w'))
    (HN : Hid (∀ w, Calls Try.prog 20 #[.agg #[.string idealIntS, .int .i64 n, .int .u64 0, .float .f64 0, .string empS], .string k] w fun e w' => e = .returned (.bool fb) ∧ Below w.heap.size w w')) (w : World) :
    Calls Try.prog 6 #[.int .i64 n, .int .i64 c] w fun e w' => e = .returned (.bool true) ∧ Below w.heap.size w w' := by
  have hcell0 : ∀ (w1 : World) (b : Nat), (∀ j, j < 13 → w1.cell? ⟨b, j, none⟩ = some (.string (kname j))) → w1.cell? ⟨b, c.toNat, none⟩ = some (.string k) := fun w1 b h => by rw [h c.toNat (by omega), hk]
  clear hk
  go_enter Try.func6, Try.ntmps6
  go_wp2_with (first | (go_at_call 19; refine (kinds_any _).mono ?_; rintro e w1 ⟨b, rfl, hlo, hz1, hb1, hcell⟩; have hj1 := hcell0 w1 b hcell; clear hcell) | (go_at_call_of 20 (Value.int .i64 5); refine (fits_5 _).mono ?_; rintro e w2 ⟨rfl, hb2⟩; obtain ⟨hc2, hf2⟩ := bcell hb2; have hz2 : b < w2.heap.size := (by have := hb2.size; (try simp at this); omega)) | (go_at_call_of 20 (Value.int .i64 300); refine (fits_300 _).mono ?_; rintro e w3 ⟨rfl, hb3⟩; obtain ⟨hc3, hf3⟩ := bcell hb3; have hz3 : b < w3.heap.size := (by have := hb3.size; (try simp at this); omega)) | (go_at_call 21; refine (HW.out _).mono ?_; rintro e w4 ⟨rfl, rfl⟩) | (go_at_call 20; refine (HN.out _).mono ?_; rintro e w5 ⟨rfl, hb5⟩))
  go_ret
  exact ⟨rfl, by repeat (first | exact Below.refl _ _ | exact (Below.refl _ _).alloc (Nat.le_refl _) _ | refine Below.drew ?_ | refine below_drewN ?_ _ | exact hb1 | refine up_below ?_ (Nat.le_refl _) (by assumption))⟩

set_option maxRecDepth 100000 in
set_option maxHeartbeats 1000000 in
theorem lawFit_i32_pos (n c : Int) (k : ByteArray) (h1 : 0 ≤ c) (h2 : c < 13) (hk : kname c.toNat = k) (fb : Bool) (h0 : 0 ≤ n)
    (hfin : (fb == (n / 2147483648 == n / 9223372036854775808)) = true) (HW : Hid (∀ w, Calls Try.prog 21 #[.string k] w fun e w' => e = .returned (.tuple #[.int .i64 32, .bool true]) ∧ w = w'))
    (HN : Hid (∀ w, Calls Try.prog 20 #[.agg #[.string idealIntS, .int .i64 n, .int .u64 0, .float .f64 0, .string empS], .string k] w fun e w' => e = .returned (.bool fb) ∧ Below w.heap.size w w')) (w : World) :
    Calls Try.prog 6 #[.int .i64 n, .int .i64 c] w fun e w' => e = .returned (.bool true) ∧ Below w.heap.size w w' := by
  have hcell0 : ∀ (w1 : World) (b : Nat), (∀ j, j < 13 → w1.cell? ⟨b, j, none⟩ = some (.string (kname j))) → w1.cell? ⟨b, c.toNat, none⟩ = some (.string k) := fun w1 b h => by rw [h c.toNat (by omega), hk]
  clear hk
  go_enter Try.func6, Try.ntmps6
  go_wp2_with (first | (go_at_call 19; refine (kinds_any _).mono ?_; rintro e w1 ⟨b, rfl, hlo, hz1, hb1, hcell⟩; have hj1 := hcell0 w1 b hcell; clear hcell) | (go_at_call_of 20 (Value.int .i64 5); refine (fits_5 _).mono ?_; rintro e w2 ⟨rfl, hb2⟩; obtain ⟨hc2, hf2⟩ := bcell hb2; have hz2 : b < w2.heap.size := (by have := hb2.size; (try simp at this); omega)) | (go_at_call_of 20 (Value.int .i64 300); refine (fits_300 _).mono ?_; rintro e w3 ⟨rfl, hb3⟩; obtain ⟨hc3, hf3⟩ := bcell hb3; have hz3 : b < w3.heap.size := (by have := hb3.size; (try simp at this); omega)) | (go_at_call 21; refine (HW.out _).mono ?_; rintro e w4 ⟨rfl, rfl⟩) | (go_at_call 20; refine (HN.out _).mono ?_; rintro e w5 ⟨rfl, hb5⟩))
  go_ret
  exact ⟨rfl, by repeat (first | exact Below.refl _ _ | exact (Below.refl _ _).alloc (Nat.le_refl _) _ | refine Below.drew ?_ | refine below_drewN ?_ _ | exact hb1 | refine up_below ?_ (Nat.le_refl _) (by assumption))⟩

set_option maxRecDepth 100000 in
set_option maxHeartbeats 1000000 in
theorem lawFit_i32_neg (n c : Int) (k : ByteArray) (h1 : 0 ≤ c) (h2 : c < 13) (hk : kname c.toNat = k) (fb : Bool) (h0 : n < 0)
    (hfin : (fb == (n / 2147483648 == n / 9223372036854775808)) = true) (HW : Hid (∀ w, Calls Try.prog 21 #[.string k] w fun e w' => e = .returned (.tuple #[.int .i64 32, .bool true]) ∧ w = w'))
    (HN : Hid (∀ w, Calls Try.prog 20 #[.agg #[.string idealIntS, .int .i64 n, .int .u64 0, .float .f64 0, .string empS], .string k] w fun e w' => e = .returned (.bool fb) ∧ Below w.heap.size w w')) (w : World) :
    Calls Try.prog 6 #[.int .i64 n, .int .i64 c] w fun e w' => e = .returned (.bool true) ∧ Below w.heap.size w w' := by
  have hcell0 : ∀ (w1 : World) (b : Nat), (∀ j, j < 13 → w1.cell? ⟨b, j, none⟩ = some (.string (kname j))) → w1.cell? ⟨b, c.toNat, none⟩ = some (.string k) := fun w1 b h => by rw [h c.toNat (by omega), hk]
  clear hk
  go_enter Try.func6, Try.ntmps6
  go_wp2_with (first | (go_at_call 19; refine (kinds_any _).mono ?_; rintro e w1 ⟨b, rfl, hlo, hz1, hb1, hcell⟩; have hj1 := hcell0 w1 b hcell; clear hcell) | (go_at_call_of 20 (Value.int .i64 5); refine (fits_5 _).mono ?_; rintro e w2 ⟨rfl, hb2⟩; obtain ⟨hc2, hf2⟩ := bcell hb2; have hz2 : b < w2.heap.size := (by have := hb2.size; (try simp at this); omega)) | (go_at_call_of 20 (Value.int .i64 300); refine (fits_300 _).mono ?_; rintro e w3 ⟨rfl, hb3⟩; obtain ⟨hc3, hf3⟩ := bcell hb3; have hz3 : b < w3.heap.size := (by have := hb3.size; (try simp at this); omega)) | (go_at_call 21; refine (HW.out _).mono ?_; rintro e w4 ⟨rfl, rfl⟩) | (go_at_call 20; refine (HN.out _).mono ?_; rintro e w5 ⟨rfl, hb5⟩))
  go_ret
  exact ⟨rfl, by repeat (first | exact Below.refl _ _ | exact (Below.refl _ _).alloc (Nat.le_refl _) _ | refine Below.drew ?_ | refine below_drewN ?_ _ | exact hb1 | refine up_below ?_ (Nat.le_refl _) (by assumption))⟩

set_option maxRecDepth 100000 in
set_option maxHeartbeats 1000000 in
theorem lawFit_i64_pos (n c : Int) (k : ByteArray) (h1 : 0 ≤ c) (h2 : c < 13) (hk : kname c.toNat = k) (fb : Bool) (h0 : 0 ≤ n)
    (hfin : (fb == true) = true) (HW : Hid (∀ w, Calls Try.prog 21 #[.string k] w fun e w' => e = .returned (.tuple #[.int .i64 64, .bool true]) ∧ w = w'))
    (HN : Hid (∀ w, Calls Try.prog 20 #[.agg #[.string idealIntS, .int .i64 n, .int .u64 0, .float .f64 0, .string empS], .string k] w fun e w' => e = .returned (.bool fb) ∧ Below w.heap.size w w')) (w : World) :
    Calls Try.prog 6 #[.int .i64 n, .int .i64 c] w fun e w' => e = .returned (.bool true) ∧ Below w.heap.size w w' := by
  have hcell0 : ∀ (w1 : World) (b : Nat), (∀ j, j < 13 → w1.cell? ⟨b, j, none⟩ = some (.string (kname j))) → w1.cell? ⟨b, c.toNat, none⟩ = some (.string k) := fun w1 b h => by rw [h c.toNat (by omega), hk]
  clear hk
  go_enter Try.func6, Try.ntmps6
  go_wp2_with (first | (go_at_call 19; refine (kinds_any _).mono ?_; rintro e w1 ⟨b, rfl, hlo, hz1, hb1, hcell⟩; have hj1 := hcell0 w1 b hcell; clear hcell) | (go_at_call_of 20 (Value.int .i64 5); refine (fits_5 _).mono ?_; rintro e w2 ⟨rfl, hb2⟩; obtain ⟨hc2, hf2⟩ := bcell hb2; have hz2 : b < w2.heap.size := (by have := hb2.size; (try simp at this); omega)) | (go_at_call_of 20 (Value.int .i64 300); refine (fits_300 _).mono ?_; rintro e w3 ⟨rfl, hb3⟩; obtain ⟨hc3, hf3⟩ := bcell hb3; have hz3 : b < w3.heap.size := (by have := hb3.size; (try simp at this); omega)) | (go_at_call 21; refine (HW.out _).mono ?_; rintro e w4 ⟨rfl, rfl⟩) | (go_at_call 20; refine (HN.out _).mono ?_; rintro e w5 ⟨rfl, hb5⟩))
  go_ret
  exact ⟨rfl, by repeat (first | exact Below.refl _ _ | exact (Below.refl _ _).alloc (Nat.le_refl _) _ | refine Below.drew ?_ | refine below_drewN ?_ _ | exact hb1 | refine up_below ?_ (Nat.le_refl _) (by assumption))⟩

set_option maxRecDepth 100000 in
set_option maxHeartbeats 1000000 in
theorem lawFit_i64_neg (n c : Int) (k : ByteArray) (h1 : 0 ≤ c) (h2 : c < 13) (hk : kname c.toNat = k) (fb : Bool) (h0 : n < 0)
    (hfin : (fb == true) = true) (HW : Hid (∀ w, Calls Try.prog 21 #[.string k] w fun e w' => e = .returned (.tuple #[.int .i64 64, .bool true]) ∧ w = w'))
    (HN : Hid (∀ w, Calls Try.prog 20 #[.agg #[.string idealIntS, .int .i64 n, .int .u64 0, .float .f64 0, .string empS], .string k] w fun e w' => e = .returned (.bool fb) ∧ Below w.heap.size w w')) (w : World) :
    Calls Try.prog 6 #[.int .i64 n, .int .i64 c] w fun e w' => e = .returned (.bool true) ∧ Below w.heap.size w w' := by
  have hcell0 : ∀ (w1 : World) (b : Nat), (∀ j, j < 13 → w1.cell? ⟨b, j, none⟩ = some (.string (kname j))) → w1.cell? ⟨b, c.toNat, none⟩ = some (.string k) := fun w1 b h => by rw [h c.toNat (by omega), hk]
  clear hk
  go_enter Try.func6, Try.ntmps6
  go_wp2_with (first | (go_at_call 19; refine (kinds_any _).mono ?_; rintro e w1 ⟨b, rfl, hlo, hz1, hb1, hcell⟩; have hj1 := hcell0 w1 b hcell; clear hcell) | (go_at_call_of 20 (Value.int .i64 5); refine (fits_5 _).mono ?_; rintro e w2 ⟨rfl, hb2⟩; obtain ⟨hc2, hf2⟩ := bcell hb2; have hz2 : b < w2.heap.size := (by have := hb2.size; (try simp at this); omega)) | (go_at_call_of 20 (Value.int .i64 300); refine (fits_300 _).mono ?_; rintro e w3 ⟨rfl, hb3⟩; obtain ⟨hc3, hf3⟩ := bcell hb3; have hz3 : b < w3.heap.size := (by have := hb3.size; (try simp at this); omega)) | (go_at_call 21; refine (HW.out _).mono ?_; rintro e w4 ⟨rfl, rfl⟩) | (go_at_call 20; refine (HN.out _).mono ?_; rintro e w5 ⟨rfl, hb5⟩))
  go_ret
  exact ⟨rfl, by repeat (first | exact Below.refl _ _ | exact (Below.refl _ _).alloc (Nat.le_refl _) _ | refine Below.drew ?_ | refine below_drewN ?_ _ | exact hb1 | refine up_below ?_ (Nat.le_refl _) (by assumption))⟩

set_option maxRecDepth 100000 in
set_option maxHeartbeats 1000000 in
theorem lawFit_u8_neg (n c : Int) (k : ByteArray) (h1 : 0 ≤ c) (h2 : c < 13) (hk : kname c.toNat = k) (fb : Bool) (h0 : n < 0)
    (hfin : (fb == false) = true) (HW : Hid (∀ w, Calls Try.prog 21 #[.string k] w fun e w' => e = .returned (.tuple #[.int .i64 8, .bool false]) ∧ w = w'))
    (HN : Hid (∀ w, Calls Try.prog 20 #[.agg #[.string idealIntS, .int .i64 n, .int .u64 0, .float .f64 0, .string empS], .string k] w fun e w' => e = .returned (.bool fb) ∧ Below w.heap.size w w')) (w : World) :
    Calls Try.prog 6 #[.int .i64 n, .int .i64 c] w fun e w' => e = .returned (.bool true) ∧ Below w.heap.size w w' := by
  have hcell0 : ∀ (w1 : World) (b : Nat), (∀ j, j < 13 → w1.cell? ⟨b, j, none⟩ = some (.string (kname j))) → w1.cell? ⟨b, c.toNat, none⟩ = some (.string k) := fun w1 b h => by rw [h c.toNat (by omega), hk]
  clear hk
  go_enter Try.func6, Try.ntmps6
  go_wp2_with (first | (go_at_call 19; refine (kinds_any _).mono ?_; rintro e w1 ⟨b, rfl, hlo, hz1, hb1, hcell⟩; have hj1 := hcell0 w1 b hcell; clear hcell) | (go_at_call_of 20 (Value.int .i64 5); refine (fits_5 _).mono ?_; rintro e w2 ⟨rfl, hb2⟩; obtain ⟨hc2, hf2⟩ := bcell hb2; have hz2 : b < w2.heap.size := (by have := hb2.size; (try simp at this); omega)) | (go_at_call_of 20 (Value.int .i64 300); refine (fits_300 _).mono ?_; rintro e w3 ⟨rfl, hb3⟩; obtain ⟨hc3, hf3⟩ := bcell hb3; have hz3 : b < w3.heap.size := (by have := hb3.size; (try simp at this); omega)) | (go_at_call 21; refine (HW.out _).mono ?_; rintro e w4 ⟨rfl, rfl⟩) | (go_at_call 20; refine (HN.out _).mono ?_; rintro e w5 ⟨rfl, hb5⟩))
  go_ret
  exact ⟨rfl, by repeat (first | exact Below.refl _ _ | exact (Below.refl _ _).alloc (Nat.le_refl _) _ | refine Below.drew ?_ | refine below_drewN ?_ _ | exact hb1 | refine up_below ?_ (Nat.le_refl _) (by assumption))⟩

set_option maxRecDepth 100000 in
set_option maxHeartbeats 1000000 in
theorem lawFit_u8_pos (n c : Int) (k : ByteArray) (h1 : 0 ≤ c) (h2 : c < 13) (hk : kname c.toNat = k) (fb : Bool) (h0 : 0 ≤ n)
    (hfin : (fb == (n / 256 == 0)) = true) (HW : Hid (∀ w, Calls Try.prog 21 #[.string k] w fun e w' => e = .returned (.tuple #[.int .i64 8, .bool false]) ∧ w = w'))
    (HN : Hid (∀ w, Calls Try.prog 20 #[.agg #[.string idealIntS, .int .i64 n, .int .u64 0, .float .f64 0, .string empS], .string k] w fun e w' => e = .returned (.bool fb) ∧ Below w.heap.size w w')) (w : World) :
    Calls Try.prog 6 #[.int .i64 n, .int .i64 c] w fun e w' => e = .returned (.bool true) ∧ Below w.heap.size w w' := by
  have hcell0 : ∀ (w1 : World) (b : Nat), (∀ j, j < 13 → w1.cell? ⟨b, j, none⟩ = some (.string (kname j))) → w1.cell? ⟨b, c.toNat, none⟩ = some (.string k) := fun w1 b h => by rw [h c.toNat (by omega), hk]
  clear hk
  go_enter Try.func6, Try.ntmps6
  go_wp2_with (first | (go_at_call 19; refine (kinds_any _).mono ?_; rintro e w1 ⟨b, rfl, hlo, hz1, hb1, hcell⟩; have hj1 := hcell0 w1 b hcell; clear hcell) | (go_at_call_of 20 (Value.int .i64 5); refine (fits_5 _).mono ?_; rintro e w2 ⟨rfl, hb2⟩; obtain ⟨hc2, hf2⟩ := bcell hb2; have hz2 : b < w2.heap.size := (by have := hb2.size; (try simp at this); omega)) | (go_at_call_of 20 (Value.int .i64 300); refine (fits_300 _).mono ?_; rintro e w3 ⟨rfl, hb3⟩; obtain ⟨hc3, hf3⟩ := bcell hb3; have hz3 : b < w3.heap.size := (by have := hb3.size; (try simp at this); omega)) | (go_at_call 21; refine (HW.out _).mono ?_; rintro e w4 ⟨rfl, rfl⟩) | (go_at_call 20; refine (HN.out _).mono ?_; rintro e w5 ⟨rfl, hb5⟩))
  go_ret
  exact ⟨rfl, by repeat (first | exact Below.refl _ _ | exact (Below.refl _ _).alloc (Nat.le_refl _) _ | refine Below.drew ?_ | refine below_drewN ?_ _ | exact hb1 | refine up_below ?_ (Nat.le_refl _) (by assumption))⟩

set_option maxRecDepth 100000 in
set_option maxHeartbeats 1000000 in
theorem lawFit_u16_neg (n c : Int) (k : ByteArray) (h1 : 0 ≤ c) (h2 : c < 13) (hk : kname c.toNat = k) (fb : Bool) (h0 : n < 0)
    (hfin : (fb == false) = true) (HW : Hid (∀ w, Calls Try.prog 21 #[.string k] w fun e w' => e = .returned (.tuple #[.int .i64 16, .bool false]) ∧ w = w'))
    (HN : Hid (∀ w, Calls Try.prog 20 #[.agg #[.string idealIntS, .int .i64 n, .int .u64 0, .float .f64 0, .string empS], .string k] w fun e w' => e = .returned (.bool fb) ∧ Below w.heap.size w w')) (w : World) :
    Calls Try.prog 6 #[.int .i64 n, .int .i64 c] w fun e w' => e = .returned (.bool true) ∧ Below w.heap.size w w' := by
  have hcell0 : ∀ (w1 : World) (b : Nat), (∀ j, j < 13 → w1.cell? ⟨b, j, none⟩ = some (.string (kname j))) → w1.cell? ⟨b, c.toNat, none⟩ = some (.string k) := fun w1 b h => by rw [h c.toNat (by omega), hk]
  clear hk
  go_enter Try.func6, Try.ntmps6
  go_wp2_with (first | (go_at_call 19; refine (kinds_any _).mono ?_; rintro e w1 ⟨b, rfl, hlo, hz1, hb1, hcell⟩; have hj1 := hcell0 w1 b hcell; clear hcell) | (go_at_call_of 20 (Value.int .i64 5); refine (fits_5 _).mono ?_; rintro e w2 ⟨rfl, hb2⟩; obtain ⟨hc2, hf2⟩ := bcell hb2; have hz2 : b < w2.heap.size := (by have := hb2.size; (try simp at this); omega)) | (go_at_call_of 20 (Value.int .i64 300); refine (fits_300 _).mono ?_; rintro e w3 ⟨rfl, hb3⟩; obtain ⟨hc3, hf3⟩ := bcell hb3; have hz3 : b < w3.heap.size := (by have := hb3.size; (try simp at this); omega)) | (go_at_call 21; refine (HW.out _).mono ?_; rintro e w4 ⟨rfl, rfl⟩) | (go_at_call 20; refine (HN.out _).mono ?_; rintro e w5 ⟨rfl, hb5⟩))
  go_ret
  exact ⟨rfl, by repeat (first | exact Below.refl _ _ | exact (Below.refl _ _).alloc (Nat.le_refl _) _ | refine Below.drew ?_ | refine below_drewN ?_ _ | exact hb1 | refine up_below ?_ (Nat.le_refl _) (by assumption))⟩

set_option maxRecDepth 100000 in
set_option maxHeartbeats 1000000 in
theorem lawFit_u16_pos (n c : Int) (k : ByteArray) (h1 : 0 ≤ c) (h2 : c < 13) (hk : kname c.toNat = k) (fb : Bool) (h0 : 0 ≤ n)
    (hfin : (fb == (n / 65536 == 0)) = true) (HW : Hid (∀ w, Calls Try.prog 21 #[.string k] w fun e w' => e = .returned (.tuple #[.int .i64 16, .bool false]) ∧ w = w'))
    (HN : Hid (∀ w, Calls Try.prog 20 #[.agg #[.string idealIntS, .int .i64 n, .int .u64 0, .float .f64 0, .string empS], .string k] w fun e w' => e = .returned (.bool fb) ∧ Below w.heap.size w w')) (w : World) :
    Calls Try.prog 6 #[.int .i64 n, .int .i64 c] w fun e w' => e = .returned (.bool true) ∧ Below w.heap.size w w' := by
  have hcell0 : ∀ (w1 : World) (b : Nat), (∀ j, j < 13 → w1.cell? ⟨b, j, none⟩ = some (.string (kname j))) → w1.cell? ⟨b, c.toNat, none⟩ = some (.string k) := fun w1 b h => by rw [h c.toNat (by omega), hk]
  clear hk
  go_enter Try.func6, Try.ntmps6
  go_wp2_with (first | (go_at_call 19; refine (kinds_any _).mono ?_; rintro e w1 ⟨b, rfl, hlo, hz1, hb1, hcell⟩; have hj1 := hcell0 w1 b hcell; clear hcell) | (go_at_call_of 20 (Value.int .i64 5); refine (fits_5 _).mono ?_; rintro e w2 ⟨rfl, hb2⟩; obtain ⟨hc2, hf2⟩ := bcell hb2; have hz2 : b < w2.heap.size := (by have := hb2.size; (try simp at this); omega)) | (go_at_call_of 20 (Value.int .i64 300); refine (fits_300 _).mono ?_; rintro e w3 ⟨rfl, hb3⟩; obtain ⟨hc3, hf3⟩ := bcell hb3; have hz3 : b < w3.heap.size := (by have := hb3.size; (try simp at this); omega)) | (go_at_call 21; refine (HW.out _).mono ?_; rintro e w4 ⟨rfl, rfl⟩) | (go_at_call 20; refine (HN.out _).mono ?_; rintro e w5 ⟨rfl, hb5⟩))
  go_ret
  exact ⟨rfl, by repeat (first | exact Below.refl _ _ | exact (Below.refl _ _).alloc (Nat.le_refl _) _ | refine Below.drew ?_ | refine below_drewN ?_ _ | exact hb1 | refine up_below ?_ (Nat.le_refl _) (by assumption))⟩

set_option maxRecDepth 100000 in
set_option maxHeartbeats 1000000 in
theorem lawFit_u32_neg (n c : Int) (k : ByteArray) (h1 : 0 ≤ c) (h2 : c < 13) (hk : kname c.toNat = k) (fb : Bool) (h0 : n < 0)
    (hfin : (fb == false) = true) (HW : Hid (∀ w, Calls Try.prog 21 #[.string k] w fun e w' => e = .returned (.tuple #[.int .i64 32, .bool false]) ∧ w = w'))
    (HN : Hid (∀ w, Calls Try.prog 20 #[.agg #[.string idealIntS, .int .i64 n, .int .u64 0, .float .f64 0, .string empS], .string k] w fun e w' => e = .returned (.bool fb) ∧ Below w.heap.size w w')) (w : World) :
    Calls Try.prog 6 #[.int .i64 n, .int .i64 c] w fun e w' => e = .returned (.bool true) ∧ Below w.heap.size w w' := by
  have hcell0 : ∀ (w1 : World) (b : Nat), (∀ j, j < 13 → w1.cell? ⟨b, j, none⟩ = some (.string (kname j))) → w1.cell? ⟨b, c.toNat, none⟩ = some (.string k) := fun w1 b h => by rw [h c.toNat (by omega), hk]
  clear hk
  go_enter Try.func6, Try.ntmps6
  go_wp2_with (first | (go_at_call 19; refine (kinds_any _).mono ?_; rintro e w1 ⟨b, rfl, hlo, hz1, hb1, hcell⟩; have hj1 := hcell0 w1 b hcell; clear hcell) | (go_at_call_of 20 (Value.int .i64 5); refine (fits_5 _).mono ?_; rintro e w2 ⟨rfl, hb2⟩; obtain ⟨hc2, hf2⟩ := bcell hb2; have hz2 : b < w2.heap.size := (by have := hb2.size; (try simp at this); omega)) | (go_at_call_of 20 (Value.int .i64 300); refine (fits_300 _).mono ?_; rintro e w3 ⟨rfl, hb3⟩; obtain ⟨hc3, hf3⟩ := bcell hb3; have hz3 : b < w3.heap.size := (by have := hb3.size; (try simp at this); omega)) | (go_at_call 21; refine (HW.out _).mono ?_; rintro e w4 ⟨rfl, rfl⟩) | (go_at_call 20; refine (HN.out _).mono ?_; rintro e w5 ⟨rfl, hb5⟩))
  go_ret
  exact ⟨rfl, by repeat (first | exact Below.refl _ _ | exact (Below.refl _ _).alloc (Nat.le_refl _) _ | refine Below.drew ?_ | refine below_drewN ?_ _ | exact hb1 | refine up_below ?_ (Nat.le_refl _) (by assumption))⟩

set_option maxRecDepth 100000 in
set_option maxHeartbeats 1000000 in
theorem lawFit_u32_pos (n c : Int) (k : ByteArray) (h1 : 0 ≤ c) (h2 : c < 13) (hk : kname c.toNat = k) (fb : Bool) (h0 : 0 ≤ n)
    (hfin : (fb == (n / 4294967296 == 0)) = true) (HW : Hid (∀ w, Calls Try.prog 21 #[.string k] w fun e w' => e = .returned (.tuple #[.int .i64 32, .bool false]) ∧ w = w'))
    (HN : Hid (∀ w, Calls Try.prog 20 #[.agg #[.string idealIntS, .int .i64 n, .int .u64 0, .float .f64 0, .string empS], .string k] w fun e w' => e = .returned (.bool fb) ∧ Below w.heap.size w w')) (w : World) :
    Calls Try.prog 6 #[.int .i64 n, .int .i64 c] w fun e w' => e = .returned (.bool true) ∧ Below w.heap.size w w' := by
  have hcell0 : ∀ (w1 : World) (b : Nat), (∀ j, j < 13 → w1.cell? ⟨b, j, none⟩ = some (.string (kname j))) → w1.cell? ⟨b, c.toNat, none⟩ = some (.string k) := fun w1 b h => by rw [h c.toNat (by omega), hk]
  clear hk
  go_enter Try.func6, Try.ntmps6
  go_wp2_with (first | (go_at_call 19; refine (kinds_any _).mono ?_; rintro e w1 ⟨b, rfl, hlo, hz1, hb1, hcell⟩; have hj1 := hcell0 w1 b hcell; clear hcell) | (go_at_call_of 20 (Value.int .i64 5); refine (fits_5 _).mono ?_; rintro e w2 ⟨rfl, hb2⟩; obtain ⟨hc2, hf2⟩ := bcell hb2; have hz2 : b < w2.heap.size := (by have := hb2.size; (try simp at this); omega)) | (go_at_call_of 20 (Value.int .i64 300); refine (fits_300 _).mono ?_; rintro e w3 ⟨rfl, hb3⟩; obtain ⟨hc3, hf3⟩ := bcell hb3; have hz3 : b < w3.heap.size := (by have := hb3.size; (try simp at this); omega)) | (go_at_call 21; refine (HW.out _).mono ?_; rintro e w4 ⟨rfl, rfl⟩) | (go_at_call 20; refine (HN.out _).mono ?_; rintro e w5 ⟨rfl, hb5⟩))
  go_ret
  exact ⟨rfl, by repeat (first | exact Below.refl _ _ | exact (Below.refl _ _).alloc (Nat.le_refl _) _ | refine Below.drew ?_ | refine below_drewN ?_ _ | exact hb1 | refine up_below ?_ (Nat.le_refl _) (by assumption))⟩

set_option maxRecDepth 100000 in
set_option maxHeartbeats 1000000 in
theorem lawFit_u64_neg (n c : Int) (k : ByteArray) (h1 : 0 ≤ c) (h2 : c < 13) (hk : kname c.toNat = k) (fb : Bool) (h0 : n < 0)
    (hfin : (fb == false) = true) (HW : Hid (∀ w, Calls Try.prog 21 #[.string k] w fun e w' => e = .returned (.tuple #[.int .i64 64, .bool false]) ∧ w = w'))
    (HN : Hid (∀ w, Calls Try.prog 20 #[.agg #[.string idealIntS, .int .i64 n, .int .u64 0, .float .f64 0, .string empS], .string k] w fun e w' => e = .returned (.bool fb) ∧ Below w.heap.size w w')) (w : World) :
    Calls Try.prog 6 #[.int .i64 n, .int .i64 c] w fun e w' => e = .returned (.bool true) ∧ Below w.heap.size w w' := by
  have hcell0 : ∀ (w1 : World) (b : Nat), (∀ j, j < 13 → w1.cell? ⟨b, j, none⟩ = some (.string (kname j))) → w1.cell? ⟨b, c.toNat, none⟩ = some (.string k) := fun w1 b h => by rw [h c.toNat (by omega), hk]
  clear hk
  go_enter Try.func6, Try.ntmps6
  go_wp2_with (first | (go_at_call 19; refine (kinds_any _).mono ?_; rintro e w1 ⟨b, rfl, hlo, hz1, hb1, hcell⟩; have hj1 := hcell0 w1 b hcell; clear hcell) | (go_at_call_of 20 (Value.int .i64 5); refine (fits_5 _).mono ?_; rintro e w2 ⟨rfl, hb2⟩; obtain ⟨hc2, hf2⟩ := bcell hb2; have hz2 : b < w2.heap.size := (by have := hb2.size; (try simp at this); omega)) | (go_at_call_of 20 (Value.int .i64 300); refine (fits_300 _).mono ?_; rintro e w3 ⟨rfl, hb3⟩; obtain ⟨hc3, hf3⟩ := bcell hb3; have hz3 : b < w3.heap.size := (by have := hb3.size; (try simp at this); omega)) | (go_at_call 21; refine (HW.out _).mono ?_; rintro e w4 ⟨rfl, rfl⟩) | (go_at_call 20; refine (HN.out _).mono ?_; rintro e w5 ⟨rfl, hb5⟩))
  go_ret
  exact ⟨rfl, by repeat (first | exact Below.refl _ _ | exact (Below.refl _ _).alloc (Nat.le_refl _) _ | refine Below.drew ?_ | refine below_drewN ?_ _ | exact hb1 | refine up_below ?_ (Nat.le_refl _) (by assumption))⟩

set_option maxRecDepth 100000 in
set_option maxHeartbeats 1000000 in
theorem lawFit_u64_pos (n c : Int) (k : ByteArray) (h1 : 0 ≤ c) (h2 : c < 13) (hk : kname c.toNat = k) (fb : Bool) (h0 : 0 ≤ n)
    (hfin : (fb == true) = true) (HW : Hid (∀ w, Calls Try.prog 21 #[.string k] w fun e w' => e = .returned (.tuple #[.int .i64 64, .bool false]) ∧ w = w'))
    (HN : Hid (∀ w, Calls Try.prog 20 #[.agg #[.string idealIntS, .int .i64 n, .int .u64 0, .float .f64 0, .string empS], .string k] w fun e w' => e = .returned (.bool fb) ∧ Below w.heap.size w w')) (w : World) :
    Calls Try.prog 6 #[.int .i64 n, .int .i64 c] w fun e w' => e = .returned (.bool true) ∧ Below w.heap.size w w' := by
  have hcell0 : ∀ (w1 : World) (b : Nat), (∀ j, j < 13 → w1.cell? ⟨b, j, none⟩ = some (.string (kname j))) → w1.cell? ⟨b, c.toNat, none⟩ = some (.string k) := fun w1 b h => by rw [h c.toNat (by omega), hk]
  clear hk
  go_enter Try.func6, Try.ntmps6
  go_wp2_with (first | (go_at_call 19; refine (kinds_any _).mono ?_; rintro e w1 ⟨b, rfl, hlo, hz1, hb1, hcell⟩; have hj1 := hcell0 w1 b hcell; clear hcell) | (go_at_call_of 20 (Value.int .i64 5); refine (fits_5 _).mono ?_; rintro e w2 ⟨rfl, hb2⟩; obtain ⟨hc2, hf2⟩ := bcell hb2; have hz2 : b < w2.heap.size := (by have := hb2.size; (try simp at this); omega)) | (go_at_call_of 20 (Value.int .i64 300); refine (fits_300 _).mono ?_; rintro e w3 ⟨rfl, hb3⟩; obtain ⟨hc3, hf3⟩ := bcell hb3; have hz3 : b < w3.heap.size := (by have := hb3.size; (try simp at this); omega)) | (go_at_call 21; refine (HW.out _).mono ?_; rintro e w4 ⟨rfl, rfl⟩) | (go_at_call 20; refine (HN.out _).mono ?_; rintro e w5 ⟨rfl, hb5⟩))
  go_ret
  exact ⟨rfl, by repeat (first | exact Below.refl _ _ | exact (Below.refl _ _).alloc (Nat.le_refl _) _ | refine Below.drew ?_ | refine below_drewN ?_ _ | exact hb1 | refine up_below ?_ (Nat.le_refl _) (by assumption))⟩

theorem fin_i8 (n : Int) (h1 : -9223372036854775808 ≤ n) (h2 : n ≤ 9223372036854775807) : (fitI .i8 n == (n / 128 == n / 9223372036854775808)) = true := by
  rw [beq_iff_eq, Bool.eq_iff_iff, fitI_iff, q_i8.1, q_i8.2]
  simp only [beq_iff_eq]
  omega
theorem fin_i16 (n : Int) (h1 : -9223372036854775808 ≤ n) (h2 : n ≤ 9223372036854775807) : (fitI .i16 n == (n / 32768 == n / 9223372036854775808)) = true := by
  rw [beq_iff_eq, Bool.eq_iff_iff, fitI_iff, q_i16.1, q_i16.2]
  simp only [beq_iff_eq]
  omega
theorem fin_i32 (n : Int) (h1 : -9223372036854775808 ≤ n) (h2 : n ≤ 9223372036854775807) : (fitI .i32 n == (n / 2147483648 == n / 9223372036854775808)) = true := by
  rw [beq_iff_eq, Bool.eq_iff_iff, fitI_iff, q_i32.1, q_i32.2]
  simp only [beq_iff_eq]
  omega
theorem fin_i64 (n : Int) (h1 : -9223372036854775808 ≤ n) (h2 : n ≤ 9223372036854775807) : (fitI .i64 n == true) = true := by
  rw [beq_iff_eq, Bool.eq_iff_iff, fitI_iff, q_i64.1, q_i64.2]
  simp only [iff_true]
  omega
theorem fin_u8 (n : Int) (h1 : 0 ≤ n) (h2 : n ≤ 9223372036854775807) : (fitI .u8 n == (n / 256 == 0)) = true := by
  rw [beq_iff_eq, Bool.eq_iff_iff, fitI_iff, q_u8.1, q_u8.2]
  simp only [beq_iff_eq]
  omega
theorem fin_u8_neg (n : Int) (h1 : n < 0) : (fitI .u8 n == false) = true := by
  rw [beq_iff_eq]
  refine Bool.eq_false_iff.2 (fun hf => ?_)
  have := (fitI_iff _ _).1 hf
  rw [q_u8.1, q_u8.2] at this
  omega
theorem fin_u16 (n : Int) (h1 : 0 ≤ n) (h2 : n ≤ 9223372036854775807) : (fitI .u16 n == (n / 65536 == 0)) = true := by
  rw [beq_iff_eq, Bool.eq_iff_iff, fitI_iff, q_u16.1, q_u16.2]
  simp only [beq_iff_eq]
  omega
theorem fin_u16_neg (n : Int) (h1 : n < 0) : (fitI .u16 n == false) = true := by
  rw [beq_iff_eq]
  refine Bool.eq_false_iff.2 (fun hf => ?_)
  have := (fitI_iff _ _).1 hf
  rw [q_u16.1, q_u16.2] at this
  omega
theorem fin_u32 (n : Int) (h1 : 0 ≤ n) (h2 : n ≤ 9223372036854775807) : (fitI .u32 n == (n / 4294967296 == 0)) = true := by
  rw [beq_iff_eq, Bool.eq_iff_iff, fitI_iff, q_u32.1, q_u32.2]
  simp only [beq_iff_eq]
  omega
theorem fin_u32_neg (n : Int) (h1 : n < 0) : (fitI .u32 n == false) = true := by
  rw [beq_iff_eq]
  refine Bool.eq_false_iff.2 (fun hf => ?_)
  have := (fitI_iff _ _).1 hf
  rw [q_u32.1, q_u32.2] at this
  omega
theorem fin_u64 (n : Int) (h1 : 0 ≤ n) (h2 : n ≤ 9223372036854775807) : (fitI .u64 n == true) = true := by
  rw [beq_iff_eq, Bool.eq_iff_iff, fitI_iff, q_u64.1, q_u64.2]
  simp only [iff_true]
  omega
theorem fin_u64_neg (n : Int) (h1 : n < 0) : (fitI .u64 n == false) = true := by
  rw [beq_iff_eq]
  refine Bool.eq_false_iff.2 (fun hf => ?_)
  have := (fitI_iff _ _).1 hf
  rw [q_u64.1, q_u64.2] at this
  omega

theorem lawFit_walk (n : Int) (wn : (Lit.int .i64 n).wf = true) (c : Int) (_wc : (Lit.int .i64 c).wf = true) (w : World) :
    Calls Try.prog 6 #[.int .i64 n, .int .i64 c] w fun e w' => e = .returned (.bool true) ∧ Below w.heap.size w w' := by
  simp only [Lit.wf, Bool.and_eq_true, decide_eq_true_eq, q_i64.1, q_i64.2] at wn
  obtain ⟨n1, n2⟩ := wn

  by_cases ho : c < 0 ∨ 13 ≤ c
  · exact lawFit_out n c ho w
  · have h1 : 0 ≤ c := by omega
    have h2 : c < 13 := by omega
    have hall : c = 0 ∨ c = 1 ∨ c = 2 ∨ c = 3 ∨ c = 4 ∨ c = 5 ∨ c = 6 ∨ c = 7 ∨ c = 8 ∨ c = 9 ∨ c = 10 ∨ c = 11 ∨ c = 12 := by omega
    clear ho
    have hw := fun k w => width_any k w
    rcases hall with rfl | rfl | rfl | rfl | rfl | rfl | rfl | rfl | rfl | rfl | rfl | rfl | rfl
    · have hk : Kd.of (kname 0).toList = .bool := by decide +kernel
      have hw' := hw (kname 0)
      rw [hk] at hw'
      exact lawFit_no n 0 _ h1 h2 rfl _ hw' w
    · have hk : Kd.of (kname 1).toList = .int .i8 := by decide +kernel
      have hw' := hw (kname 1)
      rw [hk] at hw'
      have hn := fun w => fits_any n n1 n2 (kname 1) .i8 hk w
      by_cases hp : n < 0
      · exact lawFit_i8_neg n 1 _ h1 h2 rfl _ hp (fin_i8 n n1 n2) hw' hn w
      · exact lawFit_i8_pos n 1 _ h1 h2 rfl _ (by omega) (fin_i8 n n1 n2) hw' hn w
    · have hk : Kd.of (kname 2).toList = .int .i16 := by decide +kernel
      have hw' := hw (kname 2)
      rw [hk] at hw'
      have hn := fun w => fits_any n n1 n2 (kname 2) .i16 hk w
      by_cases hp : n < 0
      · exact lawFit_i16_neg n 2 _ h1 h2 rfl _ hp (fin_i16 n n1 n2) hw' hn w
      · exact lawFit_i16_pos n 2 _ h1 h2 rfl _ (by omega) (fin_i16 n n1 n2) hw' hn w
    · have hk : Kd.of (kname 3).toList = .int .i32 := by decide +kernel
      have hw' := hw (kname 3)
      rw [hk] at hw'
      have hn := fun w => fits_any n n1 n2 (kname 3) .i32 hk w
      by_cases hp : n < 0
      · exact lawFit_i32_neg n 3 _ h1 h2 rfl _ hp (fin_i32 n n1 n2) hw' hn w
      · exact lawFit_i32_pos n 3 _ h1 h2 rfl _ (by omega) (fin_i32 n n1 n2) hw' hn w
    · have hk : Kd.of (kname 4).toList = .int .i64 := by decide +kernel
      have hw' := hw (kname 4)
      rw [hk] at hw'
      have hn := fun w => fits_any n n1 n2 (kname 4) .i64 hk w
      by_cases hp : n < 0
      · exact lawFit_i64_neg n 4 _ h1 h2 rfl _ hp (fin_i64 n n1 n2) hw' hn w
      · exact lawFit_i64_pos n 4 _ h1 h2 rfl _ (by omega) (fin_i64 n n1 n2) hw' hn w
    · have hk : Kd.of (kname 5).toList = .int .u8 := by decide +kernel
      have hw' := hw (kname 5)
      rw [hk] at hw'
      have hn := fun w => fits_any n n1 n2 (kname 5) .u8 hk w
      by_cases hp : n < 0
      · exact lawFit_u8_neg n 5 _ h1 h2 rfl _ hp (fin_u8_neg n hp) hw' hn w
      · exact lawFit_u8_pos n 5 _ h1 h2 rfl _ (by omega) (fin_u8 n (by omega) n2) hw' hn w
    · have hk : Kd.of (kname 6).toList = .int .u16 := by decide +kernel
      have hw' := hw (kname 6)
      rw [hk] at hw'
      have hn := fun w => fits_any n n1 n2 (kname 6) .u16 hk w
      by_cases hp : n < 0
      · exact lawFit_u16_neg n 6 _ h1 h2 rfl _ hp (fin_u16_neg n hp) hw' hn w
      · exact lawFit_u16_pos n 6 _ h1 h2 rfl _ (by omega) (fin_u16 n (by omega) n2) hw' hn w
    · have hk : Kd.of (kname 7).toList = .int .u32 := by decide +kernel
      have hw' := hw (kname 7)
      rw [hk] at hw'
      have hn := fun w => fits_any n n1 n2 (kname 7) .u32 hk w
      by_cases hp : n < 0
      · exact lawFit_u32_neg n 7 _ h1 h2 rfl _ hp (fin_u32_neg n hp) hw' hn w
      · exact lawFit_u32_pos n 7 _ h1 h2 rfl _ (by omega) (fin_u32 n (by omega) n2) hw' hn w
    · have hk : Kd.of (kname 8).toList = .int .u64 := by decide +kernel
      have hw' := hw (kname 8)
      rw [hk] at hw'
      have hn := fun w => fits_any n n1 n2 (kname 8) .u64 hk w
      by_cases hp : n < 0
      · exact lawFit_u64_neg n 8 _ h1 h2 rfl _ hp (fin_u64_neg n hp) hw' hn w
      · exact lawFit_u64_pos n 8 _ h1 h2 rfl _ (by omega) (fin_u64 n (by omega) n2) hw' hn w
    · have hk : Kd.of (kname 9).toList = .f32 := by decide +kernel
      have hw' := hw (kname 9)
      rw [hk] at hw'
      exact lawFit_no n 9 _ h1 h2 rfl _ hw' w
    · have hk : Kd.of (kname 10).toList = .f64 := by decide +kernel
      have hw' := hw (kname 10)
      rw [hk] at hw'
      exact lawFit_no n 10 _ h1 h2 rfl _ hw' w
    · have hk : Kd.of (kname 11).toList = .str := by decide +kernel
      have hw' := hw (kname 11)
      rw [hk] at hw'
      exact lawFit_no n 11 _ h1 h2 rfl _ hw' w
    · have hk : Kd.of (kname 12).toList = .blob := by decide +kernel
      have hw' := hw (kname 12)
      rw [hk] at hw'
      exact lawFit_no n 12 _ h1 h2 rfl _ hw' w

end Go.Proofs.Ytamekjbdpcflfaa
