/-
  The walk of laws.FnConvertFloats: it returns true, where the error of division by zero is as the program's text lays it. PRINTED BY wip/tpl/gen_lawcvf.py.
-/
import Derived.Test.YtiijcmdfbgoafaaDoorCvm
import Derived.Test.YtiijcmdfbgoafaaDoorCvn
import Derived.Test.YtiijcmdfbgoafaaDoorIsI
import Derived.Test.YtiijcmdfbgoafaaDoorBw
import Derived.Deep.RegionHeld3
namespace Go.Proofs.YtiijcmdfbgoafaaDoor
open Go.RowKit

set_option maxRecDepth 100000 in
set_option maxHeartbeats 1000000 in
theorem lawCvF_long_n (k : ByteArray) (n u : Int) (f : Nat) (s : ByteArray) (HZ : Hid (∀ w, Calls Tryd.prog 12 #[.agg #[.string k, .int .i64 n, .int .u64 u, .float .f64 f, .string s]] w fun e w' => e = .returned (.bool false) ∧ Below w.heap.size w w')) (w : World) : Calls Tryd.prog 4 #[.agg #[.string k, .int .i64 n, .int .u64 u, .float .f64 f, .string s], .bool false] w fun e w' => e = .returned (.bool true) ∧ Below w.heap.size w w' := by
  go_enter Tryd.func4, Tryd.ntmps4
  go_wp2_with (go_at_call 12; refine (HZ.out _).mono ?_; rintro e w1 ⟨rfl, hb1⟩; obtain ⟨hc1, hf1⟩ := bcell hb1; have hz1 : w.heap.size < w1.heap.size := (by have := hb1.size; (try simp at this); omega))
  go_ret
  exact ⟨rfl, by repeat (first | exact Below.refl _ _ | exact (Below.refl _ _).alloc (Nat.le_refl _) _ | refine Below.drew ?_ | refine below_drewN ?_ _ | refine Below.setCell ?_ (by first | omega | (simp; omega) | simp) _ | refine Below.alloc ?_ (by first | omega | (simp; omega) | simp) _ | refine up_below ?_ (Nat.le_refl _) (by assumption))⟩

set_option maxRecDepth 100000 in
set_option maxHeartbeats 1000000 in
theorem lawCvF_not_n (k : ByteArray) (n u : Int) (f : Nat) (s : ByteArray) (HZ : Hid (∀ w, Calls Tryd.prog 12 #[.agg #[.string k, .int .i64 n, .int .u64 u, .float .f64 f, .string s]] w fun e w' => e = .returned (.bool true) ∧ Below w.heap.size w w')) (HV : Hid (∀ w, Calls Tryd.prog 13 #[.agg #[.string k, .int .i64 n, .int .u64 u, .float .f64 f, .string s]] w fun e w' => e = .returned (.bool false) ∧ Below w.heap.size w w')) (w : World) : Calls Tryd.prog 4 #[.agg #[.string k, .int .i64 n, .int .u64 u, .float .f64 f, .string s], .bool false] w fun e w' => e = .returned (.bool true) ∧ Below w.heap.size w w' := by
  go_enter Tryd.func4, Tryd.ntmps4
  go_wp2_with (first | (go_at_call 12; refine (HZ.out _).mono ?_; rintro e w1 ⟨rfl, hb1⟩; obtain ⟨hc1, hf1⟩ := bcell hb1; have hz1 : w.heap.size < w1.heap.size := (by have := hb1.size; (try simp at this); omega)) | (go_at_call 13; refine (HV.out _).mono ?_; rintro e w2 ⟨rfl, hb2⟩; obtain ⟨hc2, hf2⟩ := bcell hb2; have hz2 : w.heap.size < w2.heap.size := (by have := hb2.size; (try simp at this); omega)) | (go_at_call 17; refine (HI.out _).mono ?_; rintro e w3 ⟨rfl, hb3⟩; obtain ⟨hc3, hf3⟩ := bcell hb3; have hz3 : w.heap.size < w3.heap.size := (by have := hb3.size; (try simp at this); omega)) | (go_at_call 18; refine (HS.out _).mono ?_; rintro e w8 ⟨rfl, rfl⟩) | (go_at_call 14; refine (converts_any _).mono ?_; rintro e w9 ⟨rfl, hb9⟩; obtain ⟨hc9, hf9⟩ := bcell hb9; have hz9 : w.heap.size < w9.heap.size := (by have := hb9.size; (try simp at this); omega)))
  go_ret
  exact ⟨rfl, by repeat (first | exact Below.refl _ _ | exact (Below.refl _ _).alloc (Nat.le_refl _) _ | refine Below.drew ?_ | refine below_drewN ?_ _ | refine Below.setCell ?_ (by first | omega | (simp; omega) | simp) _ | refine Below.alloc ?_ (by first | omega | (simp; omega) | simp) _ | refine up_below ?_ (Nat.le_refl _) (by assumption))⟩

set_option maxRecDepth 100000 in
set_option maxHeartbeats 1000000 in
theorem lawCvF_long_w (k : ByteArray) (n u : Int) (f : Nat) (s : ByteArray) (HZ : Hid (∀ w, Calls Tryd.prog 12 #[.agg #[.string k, .int .i64 n, .int .u64 u, .float .f64 f, .string s]] w fun e w' => e = .returned (.bool false) ∧ Below w.heap.size w w')) (w : World) : Calls Tryd.prog 4 #[.agg #[.string k, .int .i64 n, .int .u64 u, .float .f64 f, .string s], .bool true] w fun e w' => e = .returned (.bool true) ∧ Below w.heap.size w w' := by
  go_enter Tryd.func4, Tryd.ntmps4
  go_wp2_with (go_at_call 12; refine (HZ.out _).mono ?_; rintro e w1 ⟨rfl, hb1⟩; obtain ⟨hc1, hf1⟩ := bcell hb1; have hz1 : w.heap.size < w1.heap.size := (by have := hb1.size; (try simp at this); omega))
  go_ret
  exact ⟨rfl, by repeat (first | exact Below.refl _ _ | exact (Below.refl _ _).alloc (Nat.le_refl _) _ | refine Below.drew ?_ | refine below_drewN ?_ _ | refine Below.setCell ?_ (by first | omega | (simp; omega) | simp) _ | refine Below.alloc ?_ (by first | omega | (simp; omega) | simp) _ | refine up_below ?_ (Nat.le_refl _) (by assumption))⟩

set_option maxRecDepth 100000 in
set_option maxHeartbeats 1000000 in
theorem lawCvF_not_w (k : ByteArray) (n u : Int) (f : Nat) (s : ByteArray) (HZ : Hid (∀ w, Calls Tryd.prog 12 #[.agg #[.string k, .int .i64 n, .int .u64 u, .float .f64 f, .string s]] w fun e w' => e = .returned (.bool true) ∧ Below w.heap.size w w')) (HV : Hid (∀ w, Calls Tryd.prog 13 #[.agg #[.string k, .int .i64 n, .int .u64 u, .float .f64 f, .string s]] w fun e w' => e = .returned (.bool false) ∧ Below w.heap.size w w')) (w : World) : Calls Tryd.prog 4 #[.agg #[.string k, .int .i64 n, .int .u64 u, .float .f64 f, .string s], .bool true] w fun e w' => e = .returned (.bool true) ∧ Below w.heap.size w w' := by
  go_enter Tryd.func4, Tryd.ntmps4
  go_wp2_with (first | (go_at_call 12; refine (HZ.out _).mono ?_; rintro e w1 ⟨rfl, hb1⟩; obtain ⟨hc1, hf1⟩ := bcell hb1; have hz1 : w.heap.size < w1.heap.size := (by have := hb1.size; (try simp at this); omega)) | (go_at_call 13; refine (HV.out _).mono ?_; rintro e w2 ⟨rfl, hb2⟩; obtain ⟨hc2, hf2⟩ := bcell hb2; have hz2 : w.heap.size < w2.heap.size := (by have := hb2.size; (try simp at this); omega)) | (go_at_call 17; refine (HI.out _).mono ?_; rintro e w3 ⟨rfl, hb3⟩; obtain ⟨hc3, hf3⟩ := bcell hb3; have hz3 : w.heap.size < w3.heap.size := (by have := hb3.size; (try simp at this); omega)) | (go_at_call 18; refine (HS.out _).mono ?_; rintro e w8 ⟨rfl, rfl⟩) | (go_at_call 14; refine (converts_any _).mono ?_; rintro e w9 ⟨rfl, hb9⟩; obtain ⟨hc9, hf9⟩ := bcell hb9; have hz9 : w.heap.size < w9.heap.size := (by have := hb9.size; (try simp at this); omega)))
  go_ret
  exact ⟨rfl, by repeat (first | exact Below.refl _ _ | exact (Below.refl _ _).alloc (Nat.le_refl _) _ | refine Below.drew ?_ | refine below_drewN ?_ _ | refine Below.setCell ?_ (by first | omega | (simp; omega) | simp) _ | refine Below.alloc ?_ (by first | omega | (simp; omega) | simp) _ | refine up_below ?_ (Nat.le_refl _) (by assumption))⟩

set_option maxRecDepth 100000 in
set_option maxHeartbeats 1000000 in
theorem lawCvF_ni_k_n (k : ByteArray) (n u : Int) (f : Nat) (s : ByteArray) (h1 : (k.toList == [102, 108, 111, 97, 116, 54, 52]) = false) (HZ : Hid (∀ w, Calls Tryd.prog 12 #[.agg #[.string k, .int .i64 n, .int .u64 u, .float .f64 f, .string s]] w fun e w' => e = .returned (.bool true) ∧ Below w.heap.size w w')) (HV : Hid (∀ w, Calls Tryd.prog 13 #[.agg #[.string k, .int .i64 n, .int .u64 u, .float .f64 f, .string s]] w fun e w' => e = .returned (.bool true) ∧ Below w.heap.size w w')) (HI : Hid (∀ w, Calls Tryd.prog 17 #[.agg #[.string k, .int .i64 n, .int .u64 u, .float .f64 f, .string s]] w fun e w' => e = .returned (.bool false) ∧ Below w.heap.size w w')) (w : World) : Calls Tryd.prog 4 #[.agg #[.string k, .int .i64 n, .int .u64 u, .float .f64 f, .string s], .bool false] w fun e w' => e = .returned (.bool true) ∧ Below w.heap.size w w' := by
  go_enter Tryd.func4, Tryd.ntmps4
  go_wp2_with (first | (go_at_call 12; refine (HZ.out _).mono ?_; rintro e w1 ⟨rfl, hb1⟩; obtain ⟨hc1, hf1⟩ := bcell hb1; have hz1 : w.heap.size < w1.heap.size := (by have := hb1.size; (try simp at this); omega)) | (go_at_call 13; refine (HV.out _).mono ?_; rintro e w2 ⟨rfl, hb2⟩; obtain ⟨hc2, hf2⟩ := bcell hb2; have hz2 : w.heap.size < w2.heap.size := (by have := hb2.size; (try simp at this); omega)) | (go_at_call 17; refine (HI.out _).mono ?_; rintro e w3 ⟨rfl, hb3⟩; obtain ⟨hc3, hf3⟩ := bcell hb3; have hz3 : w.heap.size < w3.heap.size := (by have := hb3.size; (try simp at this); omega)) | (go_at_call 18; refine (HS.out _).mono ?_; rintro e w8 ⟨rfl, rfl⟩) | (go_at_call 14; refine (converts_any _).mono ?_; rintro e w9 ⟨rfl, hb9⟩; obtain ⟨hc9, hf9⟩ := bcell hb9; have hz9 : w.heap.size < w9.heap.size := (by have := hb9.size; (try simp at this); omega)))
  go_ret
  exact ⟨rfl, by repeat (first | exact Below.refl _ _ | exact (Below.refl _ _).alloc (Nat.le_refl _) _ | refine Below.drew ?_ | refine below_drewN ?_ _ | refine Below.setCell ?_ (by first | omega | (simp; omega) | simp) _ | refine Below.alloc ?_ (by first | omega | (simp; omega) | simp) _ | refine up_below ?_ (Nat.le_refl _) (by assumption))⟩

set_option maxRecDepth 100000 in
set_option maxHeartbeats 1000000 in
theorem lawCvF_ni_lo_n (k : ByteArray) (n u : Int) (f : Nat) (s : ByteArray) (h1 : k.toList = [102, 108, 111, 97, 116, 54, 52]) (h2 : (FloatKind.f64.format.order f 14279012646494702826 == some .gt) = false) (HZ : Hid (∀ w, Calls Tryd.prog 12 #[.agg #[.string k, .int .i64 n, .int .u64 u, .float .f64 f, .string s]] w fun e w' => e = .returned (.bool true) ∧ Below w.heap.size w w')) (HV : Hid (∀ w, Calls Tryd.prog 13 #[.agg #[.string k, .int .i64 n, .int .u64 u, .float .f64 f, .string s]] w fun e w' => e = .returned (.bool true) ∧ Below w.heap.size w w')) (HI : Hid (∀ w, Calls Tryd.prog 17 #[.agg #[.string k, .int .i64 n, .int .u64 u, .float .f64 f, .string s]] w fun e w' => e = .returned (.bool false) ∧ Below w.heap.size w w')) (w : World) : Calls Tryd.prog 4 #[.agg #[.string k, .int .i64 n, .int .u64 u, .float .f64 f, .string s], .bool false] w fun e w' => e = .returned (.bool true) ∧ Below w.heap.size w w' := by
  go_enter Tryd.func4, Tryd.ntmps4
  go_wp2_with (first | (go_at_call 12; refine (HZ.out _).mono ?_; rintro e w1 ⟨rfl, hb1⟩; obtain ⟨hc1, hf1⟩ := bcell hb1; have hz1 : w.heap.size < w1.heap.size := (by have := hb1.size; (try simp at this); omega)) | (go_at_call 13; refine (HV.out _).mono ?_; rintro e w2 ⟨rfl, hb2⟩; obtain ⟨hc2, hf2⟩ := bcell hb2; have hz2 : w.heap.size < w2.heap.size := (by have := hb2.size; (try simp at this); omega)) | (go_at_call 17; refine (HI.out _).mono ?_; rintro e w3 ⟨rfl, hb3⟩; obtain ⟨hc3, hf3⟩ := bcell hb3; have hz3 : w.heap.size < w3.heap.size := (by have := hb3.size; (try simp at this); omega)) | (go_at_call 18; refine (HS.out _).mono ?_; rintro e w8 ⟨rfl, rfl⟩) | (go_at_call 14; refine (converts_any _).mono ?_; rintro e w9 ⟨rfl, hb9⟩; obtain ⟨hc9, hf9⟩ := bcell hb9; have hz9 : w.heap.size < w9.heap.size := (by have := hb9.size; (try simp at this); omega)))
  go_ret
  exact ⟨rfl, by repeat (first | exact Below.refl _ _ | exact (Below.refl _ _).alloc (Nat.le_refl _) _ | refine Below.drew ?_ | refine below_drewN ?_ _ | refine Below.setCell ?_ (by first | omega | (simp; omega) | simp) _ | refine Below.alloc ?_ (by first | omega | (simp; omega) | simp) _ | refine up_below ?_ (Nat.le_refl _) (by assumption))⟩

set_option maxRecDepth 100000 in
set_option maxHeartbeats 1000000 in
theorem lawCvF_ni_hi_n (k : ByteArray) (n u : Int) (f : Nat) (s : ByteArray) (h1 : k.toList = [102, 108, 111, 97, 116, 54, 52]) (h2 : (FloatKind.f64.format.order f 14279012646494702826 == some .gt) = true) (h3 : (FloatKind.f64.format.order f 5055640609639927018 == some .lt) = false) (HZ : Hid (∀ w, Calls Tryd.prog 12 #[.agg #[.string k, .int .i64 n, .int .u64 u, .float .f64 f, .string s]] w fun e w' => e = .returned (.bool true) ∧ Below w.heap.size w w')) (HV : Hid (∀ w, Calls Tryd.prog 13 #[.agg #[.string k, .int .i64 n, .int .u64 u, .float .f64 f, .string s]] w fun e w' => e = .returned (.bool true) ∧ Below w.heap.size w w')) (HI : Hid (∀ w, Calls Tryd.prog 17 #[.agg #[.string k, .int .i64 n, .int .u64 u, .float .f64 f, .string s]] w fun e w' => e = .returned (.bool false) ∧ Below w.heap.size w w')) (w : World) : Calls Tryd.prog 4 #[.agg #[.string k, .int .i64 n, .int .u64 u, .float .f64 f, .string s], .bool false] w fun e w' => e = .returned (.bool true) ∧ Below w.heap.size w w' := by
  go_enter Tryd.func4, Tryd.ntmps4
  go_wp2_with (first | (go_at_call 12; refine (HZ.out _).mono ?_; rintro e w1 ⟨rfl, hb1⟩; obtain ⟨hc1, hf1⟩ := bcell hb1; have hz1 : w.heap.size < w1.heap.size := (by have := hb1.size; (try simp at this); omega)) | (go_at_call 13; refine (HV.out _).mono ?_; rintro e w2 ⟨rfl, hb2⟩; obtain ⟨hc2, hf2⟩ := bcell hb2; have hz2 : w.heap.size < w2.heap.size := (by have := hb2.size; (try simp at this); omega)) | (go_at_call 17; refine (HI.out _).mono ?_; rintro e w3 ⟨rfl, hb3⟩; obtain ⟨hc3, hf3⟩ := bcell hb3; have hz3 : w.heap.size < w3.heap.size := (by have := hb3.size; (try simp at this); omega)) | (go_at_call 18; refine (HS.out _).mono ?_; rintro e w8 ⟨rfl, rfl⟩) | (go_at_call 14; refine (converts_any _).mono ?_; rintro e w9 ⟨rfl, hb9⟩; obtain ⟨hc9, hf9⟩ := bcell hb9; have hz9 : w.heap.size < w9.heap.size := (by have := hb9.size; (try simp at this); omega)))
  go_ret
  exact ⟨rfl, by repeat (first | exact Below.refl _ _ | exact (Below.refl _ _).alloc (Nat.le_refl _) _ | refine Below.drew ?_ | refine below_drewN ?_ _ | refine Below.setCell ?_ (by first | omega | (simp; omega) | simp) _ | refine Below.alloc ?_ (by first | omega | (simp; omega) | simp) _ | refine up_below ?_ (Nat.le_refl _) (by assumption))⟩

set_option maxRecDepth 100000 in
set_option maxHeartbeats 1000000 in
theorem lawCvF_big_n (k : ByteArray) (n u : Int) (f : Nat) (s : ByteArray) (h1 : (k.toList == [102, 108, 111, 97, 116, 54, 52]) = false) (HZ : Hid (∀ w, Calls Tryd.prog 12 #[.agg #[.string k, .int .i64 n, .int .u64 u, .float .f64 f, .string s]] w fun e w' => e = .returned (.bool true) ∧ Below w.heap.size w w')) (HV : Hid (∀ w, Calls Tryd.prog 13 #[.agg #[.string k, .int .i64 n, .int .u64 u, .float .f64 f, .string s]] w fun e w' => e = .returned (.bool true) ∧ Below w.heap.size w w')) (HI : Hid (∀ w, Calls Tryd.prog 17 #[.agg #[.string k, .int .i64 n, .int .u64 u, .float .f64 f, .string s]] w fun e w' => e = .returned (.bool true) ∧ Below w.heap.size w w')) (HS : Hid (∀ w, Calls Tryd.prog 18 #[.int .i64 n] w fun e w' => e = .returned (.int .u64 (n.natAbs : Int)) ∧ w = w')) (h4 : 16777216 < (n.natAbs : Int)) (w : World) : Calls Tryd.prog 4 #[.agg #[.string k, .int .i64 n, .int .u64 u, .float .f64 f, .string s], .bool false] w fun e w' => e = .returned (.bool true) ∧ Below w.heap.size w w' := by
  go_enter Tryd.func4, Tryd.ntmps4
  go_wp2_with (first | (go_at_call 12; refine (HZ.out _).mono ?_; rintro e w1 ⟨rfl, hb1⟩; obtain ⟨hc1, hf1⟩ := bcell hb1; have hz1 : w.heap.size < w1.heap.size := (by have := hb1.size; (try simp at this); omega)) | (go_at_call 13; refine (HV.out _).mono ?_; rintro e w2 ⟨rfl, hb2⟩; obtain ⟨hc2, hf2⟩ := bcell hb2; have hz2 : w.heap.size < w2.heap.size := (by have := hb2.size; (try simp at this); omega)) | (go_at_call 17; refine (HI.out _).mono ?_; rintro e w3 ⟨rfl, hb3⟩; obtain ⟨hc3, hf3⟩ := bcell hb3; have hz3 : w.heap.size < w3.heap.size := (by have := hb3.size; (try simp at this); omega)) | (go_at_call 18; refine (HS.out _).mono ?_; rintro e w8 ⟨rfl, rfl⟩) | (go_at_call 14; refine (converts_any _).mono ?_; rintro e w9 ⟨rfl, hb9⟩; obtain ⟨hc9, hf9⟩ := bcell hb9; have hz9 : w.heap.size < w9.heap.size := (by have := hb9.size; (try simp at this); omega)))
  go_ret
  exact ⟨rfl, by repeat (first | exact Below.refl _ _ | exact (Below.refl _ _).alloc (Nat.le_refl _) _ | refine Below.drew ?_ | refine below_drewN ?_ _ | refine Below.setCell ?_ (by first | omega | (simp; omega) | simp) _ | refine Below.alloc ?_ (by first | omega | (simp; omega) | simp) _ | refine up_below ?_ (Nat.le_refl _) (by assumption))⟩

set_option maxRecDepth 100000 in
set_option maxHeartbeats 1000000 in
theorem lawCvF_bigu_n (k : ByteArray) (n u : Int) (f : Nat) (s : ByteArray) (h1 : (k.toList == [102, 108, 111, 97, 116, 54, 52]) = false) (HZ : Hid (∀ w, Calls Tryd.prog 12 #[.agg #[.string k, .int .i64 n, .int .u64 u, .float .f64 f, .string s]] w fun e w' => e = .returned (.bool true) ∧ Below w.heap.size w w')) (HV : Hid (∀ w, Calls Tryd.prog 13 #[.agg #[.string k, .int .i64 n, .int .u64 u, .float .f64 f, .string s]] w fun e w' => e = .returned (.bool true) ∧ Below w.heap.size w w')) (HI : Hid (∀ w, Calls Tryd.prog 17 #[.agg #[.string k, .int .i64 n, .int .u64 u, .float .f64 f, .string s]] w fun e w' => e = .returned (.bool true) ∧ Below w.heap.size w w')) (HS : Hid (∀ w, Calls Tryd.prog 18 #[.int .i64 n] w fun e w' => e = .returned (.int .u64 (n.natAbs : Int)) ∧ w = w')) (h4 : (n.natAbs : Int) ≤ 16777216) (h5 : 16777216 < u) (w : World) : Calls Tryd.prog 4 #[.agg #[.string k, .int .i64 n, .int .u64 u, .float .f64 f, .string s], .bool false] w fun e w' => e = .returned (.bool true) ∧ Below w.heap.size w w' := by
  go_enter Tryd.func4, Tryd.ntmps4
  go_wp2_with (first | (go_at_call 12; refine (HZ.out _).mono ?_; rintro e w1 ⟨rfl, hb1⟩; obtain ⟨hc1, hf1⟩ := bcell hb1; have hz1 : w.heap.size < w1.heap.size := (by have := hb1.size; (try simp at this); omega)) | (go_at_call 13; refine (HV.out _).mono ?_; rintro e w2 ⟨rfl, hb2⟩; obtain ⟨hc2, hf2⟩ := bcell hb2; have hz2 : w.heap.size < w2.heap.size := (by have := hb2.size; (try simp at this); omega)) | (go_at_call 17; refine (HI.out _).mono ?_; rintro e w3 ⟨rfl, hb3⟩; obtain ⟨hc3, hf3⟩ := bcell hb3; have hz3 : w.heap.size < w3.heap.size := (by have := hb3.size; (try simp at this); omega)) | (go_at_call 18; refine (HS.out _).mono ?_; rintro e w8 ⟨rfl, rfl⟩) | (go_at_call 14; refine (converts_any _).mono ?_; rintro e w9 ⟨rfl, hb9⟩; obtain ⟨hc9, hf9⟩ := bcell hb9; have hz9 : w.heap.size < w9.heap.size := (by have := hb9.size; (try simp at this); omega)))
  go_ret
  exact ⟨rfl, by repeat (first | exact Below.refl _ _ | exact (Below.refl _ _).alloc (Nat.le_refl _) _ | refine Below.drew ?_ | refine below_drewN ?_ _ | refine Below.setCell ?_ (by first | omega | (simp; omega) | simp) _ | refine Below.alloc ?_ (by first | omega | (simp; omega) | simp) _ | refine up_below ?_ (Nat.le_refl _) (by assumption))⟩

set_option maxRecDepth 100000 in
set_option maxHeartbeats 1000000 in
theorem lawCvF_f64_n (k : ByteArray) (n u : Int) (f : Nat) (s : ByteArray) (a : Addr) (h1 : k.toList = [102, 108, 111, 97, 116, 54, 52]) (h2 : (FloatKind.f64.format.order f 14279012646494702826 == some .gt) = true) (h3 : (FloatKind.f64.format.order f 5055640609639927018 == some .lt) = true) (c1 : ∀ W, (convert 28 37 (.float .f64 f)).run Tryd.prog W = .ok (.float .f32 (Flt.down f)) W) (c2 : ∀ W, (convert 37 28 (.float .f32 (Flt.down f))).run Tryd.prog W = .ok (.float .f64 (Flt.up (Flt.down f))) W) (HZ : Hid (∀ w, Calls Tryd.prog 12 #[.agg #[.string k, .int .i64 n, .int .u64 u, .float .f64 f, .string s]] w fun e w' => e = .returned (.bool true) ∧ Below w.heap.size w w')) (HV : Hid (∀ w, Calls Tryd.prog 13 #[.agg #[.string k, .int .i64 n, .int .u64 u, .float .f64 f, .string s]] w fun e w' => e = .returned (.bool true) ∧ Below w.heap.size w w')) (HC : Hid (∀ w, Has w a → Calls Tryd.prog 15 #[.agg #[.string k, .int .i64 n, .int .u64 u, .float .f64 f, .string s], .string f32S] w fun e w' => e = .returned (.tuple #[.agg #[.string f32S, .int .i64 0, .int .u64 0, .float .f64 (Flt.up (Flt.down f)), .string ⟨#[]⟩], .int .i64 0]) ∧ Below w.heap.size w w')) (w : World) (hg : Has w a) : Calls Tryd.prog 4 #[.agg #[.string k, .int .i64 n, .int .u64 u, .float .f64 f, .string s], .bool false] w fun e w' => e = .returned (.bool true) ∧ Below w.heap.size w w' := by
  have hS : f32S.toList = [102, 108, 111, 97, 116, 51, 50] := by decide +kernel
  have HG := Lib.hid hg
  clear hg
  go_enter Tryd.func4, Tryd.ntmps4
  go_wp2_with (first | (go_at_call 12; refine (HZ.out _).mono ?_; rintro e w1 ⟨rfl, hb1⟩; obtain ⟨hc1, hf1⟩ := bcell hb1; have hz1 : w.heap.size < w1.heap.size := (by have := hb1.size; (try simp at this); omega)) | (go_at_call 13; refine (HV.out _).mono ?_; rintro e w2 ⟨rfl, hb2⟩; obtain ⟨hc2, hf2⟩ := bcell hb2; have hz2 : w.heap.size < w2.heap.size := (by have := hb2.size; (try simp at this); omega)) | (go_at_call 15; refine (HC.out _ (HG.out.of (by repeat (first | exact Below.refl _ _ | exact (Below.refl _ _).alloc (Nat.le_refl _) _ | refine Below.drew ?_ | refine below_drewN ?_ _ | refine Below.setCell ?_ (by first | omega | (simp; omega) | simp) _ | refine Below.alloc ?_ (by first | omega | (simp; omega) | simp) _ | refine up_below ?_ (Nat.le_refl _) (by assumption))))).mono ?_; rintro e w4 ⟨rfl, hb4⟩; obtain ⟨hc4, hf4⟩ := bcell hb4; have hz4 : w.heap.size < w4.heap.size := (by have := hb4.size; (try simp at this); omega)))
  refine wp_region_bw (by kernel_rfl) (by kernel_rfl) ?_
  repeat (go_big_quiet_step ((first | (go_at_call 16; exact bw_of ((bits_any _ _).mono fun _ _ h => ⟨h.1, by rw [← h.2]; exact Below.refl _ _⟩)) | (go_at_call 14; exact bw_of (converts_any _)))))
  refine wpQuiet_nil ?_
  intro _ hw'
  obtain ⟨pq, hw''⟩ := hw'
  subst hw''
  have hbq := pq.h
  go_wp2
  go_ret
  exact ⟨rfl, up_below (((up_below (up_below (up_below ((Below.refl _ _).alloc (Nat.le_refl _) _) (Nat.le_refl _) hb1) (Nat.le_refl _) hb2) (Nat.le_refl _) hb4)).alloc (by omega) _) (Nat.le_refl _) hbq⟩

set_option maxRecDepth 100000 in
set_option maxHeartbeats 1000000 in
theorem lawCvF_main_n (k : ByteArray) (n u : Int) (f : Nat) (s : ByteArray) (a : Addr) (g r : Nat) (h1 : (k.toList == [102, 108, 111, 97, 116, 54, 52]) = false) (h4 : (n.natAbs : Int) ≤ 16777216) (h5 : u ≤ 16777216) (c1 : ∀ W, (binOp .add 28 (.float .f64 (floatOfInt .f64 n)) (.float .f64 (floatOfInt .f64 u))).run Tryd.prog W = .ok (.float .f64 r) W) (h6 : (FloatKind.f64.format.order g r == some .eq) = true) (HZ : Hid (∀ w, Calls Tryd.prog 12 #[.agg #[.string k, .int .i64 n, .int .u64 u, .float .f64 f, .string s]] w fun e w' => e = .returned (.bool true) ∧ Below w.heap.size w w')) (HV : Hid (∀ w, Calls Tryd.prog 13 #[.agg #[.string k, .int .i64 n, .int .u64 u, .float .f64 f, .string s]] w fun e w' => e = .returned (.bool true) ∧ Below w.heap.size w w')) (HI : Hid (∀ w, Calls Tryd.prog 17 #[.agg #[.string k, .int .i64 n, .int .u64 u, .float .f64 f, .string s]] w fun e w' => e = .returned (.bool true) ∧ Below w.heap.size w w')) (HS : Hid (∀ w, Calls Tryd.prog 18 #[.int .i64 n] w fun e w' => e = .returned (.int .u64 (n.natAbs : Int)) ∧ w = w')) (HC : Hid (∀ w, Has w a → Calls Tryd.prog 15 #[.agg #[.string k, .int .i64 n, .int .u64 u, .float .f64 f, .string s], .string f32S] w fun e w' => e = .returned (.tuple #[.agg #[.string f32S, .int .i64 0, .int .u64 0, .float .f64 g, .string ⟨#[]⟩], .int .i64 0]) ∧ Below w.heap.size w w')) (HD : Hid (∀ w, Has w a → Calls Tryd.prog 15 #[.agg #[.string f32S, .int .i64 0, .int .u64 0, .float .f64 g, .string ⟨#[]⟩], .string k] w fun e w' => ∃ kj nj uj gj sj, e = .returned (.tuple #[.agg #[.string kj, .int .i64 nj, .int .u64 uj, .float .f64 gj, .string sj], .int .i64 0]) ∧ Below w.heap.size w w' ∧ sameB kj nj uj gj sj k n u f s = true)) (w : World) (hg : Has w a) : Calls Tryd.prog 4 #[.agg #[.string k, .int .i64 n, .int .u64 u, .float .f64 f, .string s], .bool false] w fun e w' => e = .returned (.bool true) ∧ Below w.heap.size w w' := by
  have hS : f32S.toList = [102, 108, 111, 97, 116, 51, 50] := by decide +kernel
  have HG := Lib.hid hg
  clear hg
  go_enter Tryd.func4, Tryd.ntmps4
  go_wp2_with (first | (go_at_call 12; refine (HZ.out _).mono ?_; rintro e w1 ⟨rfl, hb1⟩; obtain ⟨hc1, hf1⟩ := bcell hb1; have hz1 : w.heap.size < w1.heap.size := (by have := hb1.size; (try simp at this); omega)) | (go_at_call 13; refine (HV.out _).mono ?_; rintro e w2 ⟨rfl, hb2⟩; obtain ⟨hc2, hf2⟩ := bcell hb2; have hz2 : w.heap.size < w2.heap.size := (by have := hb2.size; (try simp at this); omega)) | (go_at_call 17; refine (HI.out _).mono ?_; rintro e w3 ⟨rfl, hb3⟩; obtain ⟨hc3, hf3⟩ := bcell hb3; have hz3 : w.heap.size < w3.heap.size := (by have := hb3.size; (try simp at this); omega)) | (go_at_call 18; refine (HS.out _).mono ?_; rintro e w8 ⟨rfl, rfl⟩) | (go_at_call 14; refine (converts_any _).mono ?_; rintro e w9 ⟨rfl, hb9⟩; obtain ⟨hc9, hf9⟩ := bcell hb9; have hz9 : w.heap.size < w9.heap.size := (by have := hb9.size; (try simp at this); omega)) | (go_at_call_of 15 (Value.agg #[.string k, .int .i64 n, .int .u64 u, .float .f64 f, .string s]); refine (HC.out _ (HG.out.of (by repeat (first | exact Below.refl _ _ | exact (Below.refl _ _).alloc (Nat.le_refl _) _ | refine Below.drew ?_ | refine below_drewN ?_ _ | refine Below.setCell ?_ (by first | omega | (simp; omega) | simp) _ | refine Below.alloc ?_ (by first | omega | (simp; omega) | simp) _ | refine up_below ?_ (Nat.le_refl _) (by assumption))))).mono ?_; rintro e w4 ⟨rfl, hb4⟩; obtain ⟨hc4, hf4⟩ := bcell hb4; have hz4 : w.heap.size < w4.heap.size := (by have := hb4.size; (try simp at this); omega)) | (go_at_call 15; refine (HD.out _ (HG.out.of (by repeat (first | exact Below.refl _ _ | exact (Below.refl _ _).alloc (Nat.le_refl _) _ | refine Below.drew ?_ | refine below_drewN ?_ _ | refine Below.setCell ?_ (by first | omega | (simp; omega) | simp) _ | refine Below.alloc ?_ (by first | omega | (simp; omega) | simp) _ | refine up_below ?_ (Nat.le_refl _) (by assumption))))).mono ?_; rintro e w5 ⟨kj, nj, uj, gj, sj, rfl, hb5, hq⟩; have HQ := Lib.hid hq; clear hq; obtain ⟨hc5, hf5⟩ := bcell hb5; have hz5 : w.heap.size < w5.heap.size := (by have := hb5.size; (try simp at this); omega); have hx5 : w4.heap.size < w5.heap.size := (by have := hb5.size; (try simp at this); omega)) | (go_at_call 19; refine (same_true _ _ _ _ _ _ _ _ _ _ HQ.out _).mono ?_; rintro e w6 ⟨rfl, hb6⟩; obtain ⟨hc6, hf6⟩ := bcell hb6; have hz6 : w.heap.size < w6.heap.size := (by have := hb6.size; (try simp at this); omega); have hx6 : w4.heap.size < w6.heap.size := (by have := hb6.size; (try simp at this); omega); have hx7 : w5.heap.size < w6.heap.size := (by have := hb6.size; (try simp at this); omega)))
  go_ret
  exact ⟨rfl, by repeat (first | exact Below.refl _ _ | exact (Below.refl _ _).alloc (Nat.le_refl _) _ | refine Below.drew ?_ | refine below_drewN ?_ _ | refine Below.setCell ?_ (by first | omega | (simp; omega) | simp) _ | refine Below.alloc ?_ (by first | omega | (simp; omega) | simp) _ | refine up_below ?_ (Nat.le_refl _) (by assumption))⟩

set_option maxRecDepth 100000 in
set_option maxHeartbeats 1000000 in
theorem lawCvF_ni_k_w (k : ByteArray) (n u : Int) (f : Nat) (s : ByteArray) (h1 : (k.toList == [102, 108, 111, 97, 116, 54, 52]) = false) (HZ : Hid (∀ w, Calls Tryd.prog 12 #[.agg #[.string k, .int .i64 n, .int .u64 u, .float .f64 f, .string s]] w fun e w' => e = .returned (.bool true) ∧ Below w.heap.size w w')) (HV : Hid (∀ w, Calls Tryd.prog 13 #[.agg #[.string k, .int .i64 n, .int .u64 u, .float .f64 f, .string s]] w fun e w' => e = .returned (.bool true) ∧ Below w.heap.size w w')) (HI : Hid (∀ w, Calls Tryd.prog 17 #[.agg #[.string k, .int .i64 n, .int .u64 u, .float .f64 f, .string s]] w fun e w' => e = .returned (.bool false) ∧ Below w.heap.size w w')) (w : World) : Calls Tryd.prog 4 #[.agg #[.string k, .int .i64 n, .int .u64 u, .float .f64 f, .string s], .bool true] w fun e w' => e = .returned (.bool true) ∧ Below w.heap.size w w' := by
  go_enter Tryd.func4, Tryd.ntmps4
  go_wp2_with (first | (go_at_call 12; refine (HZ.out _).mono ?_; rintro e w1 ⟨rfl, hb1⟩; obtain ⟨hc1, hf1⟩ := bcell hb1; have hz1 : w.heap.size < w1.heap.size := (by have := hb1.size; (try simp at this); omega)) | (go_at_call 13; refine (HV.out _).mono ?_; rintro e w2 ⟨rfl, hb2⟩; obtain ⟨hc2, hf2⟩ := bcell hb2; have hz2 : w.heap.size < w2.heap.size := (by have := hb2.size; (try simp at this); omega)) | (go_at_call 17; refine (HI.out _).mono ?_; rintro e w3 ⟨rfl, hb3⟩; obtain ⟨hc3, hf3⟩ := bcell hb3; have hz3 : w.heap.size < w3.heap.size := (by have := hb3.size; (try simp at this); omega)) | (go_at_call 18; refine (HS.out _).mono ?_; rintro e w8 ⟨rfl, rfl⟩) | (go_at_call 14; refine (converts_any _).mono ?_; rintro e w9 ⟨rfl, hb9⟩; obtain ⟨hc9, hf9⟩ := bcell hb9; have hz9 : w.heap.size < w9.heap.size := (by have := hb9.size; (try simp at this); omega)))
  go_ret
  exact ⟨rfl, by repeat (first | exact Below.refl _ _ | exact (Below.refl _ _).alloc (Nat.le_refl _) _ | refine Below.drew ?_ | refine below_drewN ?_ _ | refine Below.setCell ?_ (by first | omega | (simp; omega) | simp) _ | refine Below.alloc ?_ (by first | omega | (simp; omega) | simp) _ | refine up_below ?_ (Nat.le_refl _) (by assumption))⟩

set_option maxRecDepth 100000 in
set_option maxHeartbeats 1000000 in
theorem lawCvF_ni_lo_w (k : ByteArray) (n u : Int) (f : Nat) (s : ByteArray) (h1 : k.toList = [102, 108, 111, 97, 116, 54, 52]) (h2 : (FloatKind.f64.format.order f 14279012646494702826 == some .gt) = false) (HZ : Hid (∀ w, Calls Tryd.prog 12 #[.agg #[.string k, .int .i64 n, .int .u64 u, .float .f64 f, .string s]] w fun e w' => e = .returned (.bool true) ∧ Below w.heap.size w w')) (HV : Hid (∀ w, Calls Tryd.prog 13 #[.agg #[.string k, .int .i64 n, .int .u64 u, .float .f64 f, .string s]] w fun e w' => e = .returned (.bool true) ∧ Below w.heap.size w w')) (HI : Hid (∀ w, Calls Tryd.prog 17 #[.agg #[.string k, .int .i64 n, .int .u64 u, .float .f64 f, .string s]] w fun e w' => e = .returned (.bool false) ∧ Below w.heap.size w w')) (w : World) : Calls Tryd.prog 4 #[.agg #[.string k, .int .i64 n, .int .u64 u, .float .f64 f, .string s], .bool true] w fun e w' => e = .returned (.bool true) ∧ Below w.heap.size w w' := by
  go_enter Tryd.func4, Tryd.ntmps4
  go_wp2_with (first | (go_at_call 12; refine (HZ.out _).mono ?_; rintro e w1 ⟨rfl, hb1⟩; obtain ⟨hc1, hf1⟩ := bcell hb1; have hz1 : w.heap.size < w1.heap.size := (by have := hb1.size; (try simp at this); omega)) | (go_at_call 13; refine (HV.out _).mono ?_; rintro e w2 ⟨rfl, hb2⟩; obtain ⟨hc2, hf2⟩ := bcell hb2; have hz2 : w.heap.size < w2.heap.size := (by have := hb2.size; (try simp at this); omega)) | (go_at_call 17; refine (HI.out _).mono ?_; rintro e w3 ⟨rfl, hb3⟩; obtain ⟨hc3, hf3⟩ := bcell hb3; have hz3 : w.heap.size < w3.heap.size := (by have := hb3.size; (try simp at this); omega)) | (go_at_call 18; refine (HS.out _).mono ?_; rintro e w8 ⟨rfl, rfl⟩) | (go_at_call 14; refine (converts_any _).mono ?_; rintro e w9 ⟨rfl, hb9⟩; obtain ⟨hc9, hf9⟩ := bcell hb9; have hz9 : w.heap.size < w9.heap.size := (by have := hb9.size; (try simp at this); omega)))
  go_ret
  exact ⟨rfl, by repeat (first | exact Below.refl _ _ | exact (Below.refl _ _).alloc (Nat.le_refl _) _ | refine Below.drew ?_ | refine below_drewN ?_ _ | refine Below.setCell ?_ (by first | omega | (simp; omega) | simp) _ | refine Below.alloc ?_ (by first | omega | (simp; omega) | simp) _ | refine up_below ?_ (Nat.le_refl _) (by assumption))⟩

set_option maxRecDepth 100000 in
set_option maxHeartbeats 1000000 in
theorem lawCvF_ni_hi_w (k : ByteArray) (n u : Int) (f : Nat) (s : ByteArray) (h1 : k.toList = [102, 108, 111, 97, 116, 54, 52]) (h2 : (FloatKind.f64.format.order f 14279012646494702826 == some .gt) = true) (h3 : (FloatKind.f64.format.order f 5055640609639927018 == some .lt) = false) (HZ : Hid (∀ w, Calls Tryd.prog 12 #[.agg #[.string k, .int .i64 n, .int .u64 u, .float .f64 f, .string s]] w fun e w' => e = .returned (.bool true) ∧ Below w.heap.size w w')) (HV : Hid (∀ w, Calls Tryd.prog 13 #[.agg #[.string k, .int .i64 n, .int .u64 u, .float .f64 f, .string s]] w fun e w' => e = .returned (.bool true) ∧ Below w.heap.size w w')) (HI : Hid (∀ w, Calls Tryd.prog 17 #[.agg #[.string k, .int .i64 n, .int .u64 u, .float .f64 f, .string s]] w fun e w' => e = .returned (.bool false) ∧ Below w.heap.size w w')) (w : World) : Calls Tryd.prog 4 #[.agg #[.string k, .int .i64 n, .int .u64 u, .float .f64 f, .string s], .bool true] w fun e w' => e = .returned (.bool true) ∧ Below w.heap.size w w' := by
  go_enter Tryd.func4, Tryd.ntmps4
  go_wp2_with (first | (go_at_call 12; refine (HZ.out _).mono ?_; rintro e w1 ⟨rfl, hb1⟩; obtain ⟨hc1, hf1⟩ := bcell hb1; have hz1 : w.heap.size < w1.heap.size := (by have := hb1.size; (try simp at this); omega)) | (go_at_call 13; refine (HV.out _).mono ?_; rintro e w2 ⟨rfl, hb2⟩; obtain ⟨hc2, hf2⟩ := bcell hb2; have hz2 : w.heap.size < w2.heap.size := (by have := hb2.size; (try simp at this); omega)) | (go_at_call 17; refine (HI.out _).mono ?_; rintro e w3 ⟨rfl, hb3⟩; obtain ⟨hc3, hf3⟩ := bcell hb3; have hz3 : w.heap.size < w3.heap.size := (by have := hb3.size; (try simp at this); omega)) | (go_at_call 18; refine (HS.out _).mono ?_; rintro e w8 ⟨rfl, rfl⟩) | (go_at_call 14; refine (converts_any _).mono ?_; rintro e w9 ⟨rfl, hb9⟩; obtain ⟨hc9, hf9⟩ := bcell hb9; have hz9 : w.heap.size < w9.heap.size := (by have := hb9.size; (try simp at this); omega)))
  go_ret
  exact ⟨rfl, by repeat (first | exact Below.refl _ _ | exact (Below.refl _ _).alloc (Nat.le_refl _) _ | refine Below.drew ?_ | refine below_drewN ?_ _ | refine Below.setCell ?_ (by first | omega | (simp; omega) | simp) _ | refine Below.alloc ?_ (by first | omega | (simp; omega) | simp) _ | refine up_below ?_ (Nat.le_refl _) (by assumption))⟩

set_option maxRecDepth 100000 in
set_option maxHeartbeats 1000000 in
theorem lawCvF_big_w (k : ByteArray) (n u : Int) (f : Nat) (s : ByteArray) (h1 : (k.toList == [102, 108, 111, 97, 116, 54, 52]) = false) (HZ : Hid (∀ w, Calls Tryd.prog 12 #[.agg #[.string k, .int .i64 n, .int .u64 u, .float .f64 f, .string s]] w fun e w' => e = .returned (.bool true) ∧ Below w.heap.size w w')) (HV : Hid (∀ w, Calls Tryd.prog 13 #[.agg #[.string k, .int .i64 n, .int .u64 u, .float .f64 f, .string s]] w fun e w' => e = .returned (.bool true) ∧ Below w.heap.size w w')) (HI : Hid (∀ w, Calls Tryd.prog 17 #[.agg #[.string k, .int .i64 n, .int .u64 u, .float .f64 f, .string s]] w fun e w' => e = .returned (.bool true) ∧ Below w.heap.size w w')) (HS : Hid (∀ w, Calls Tryd.prog 18 #[.int .i64 n] w fun e w' => e = .returned (.int .u64 (n.natAbs : Int)) ∧ w = w')) (h4 : 16777216 < (n.natAbs : Int)) (w : World) : Calls Tryd.prog 4 #[.agg #[.string k, .int .i64 n, .int .u64 u, .float .f64 f, .string s], .bool true] w fun e w' => e = .returned (.bool true) ∧ Below w.heap.size w w' := by
  go_enter Tryd.func4, Tryd.ntmps4
  go_wp2_with (first | (go_at_call 12; refine (HZ.out _).mono ?_; rintro e w1 ⟨rfl, hb1⟩; obtain ⟨hc1, hf1⟩ := bcell hb1; have hz1 : w.heap.size < w1.heap.size := (by have := hb1.size; (try simp at this); omega)) | (go_at_call 13; refine (HV.out _).mono ?_; rintro e w2 ⟨rfl, hb2⟩; obtain ⟨hc2, hf2⟩ := bcell hb2; have hz2 : w.heap.size < w2.heap.size := (by have := hb2.size; (try simp at this); omega)) | (go_at_call 17; refine (HI.out _).mono ?_; rintro e w3 ⟨rfl, hb3⟩; obtain ⟨hc3, hf3⟩ := bcell hb3; have hz3 : w.heap.size < w3.heap.size := (by have := hb3.size; (try simp at this); omega)) | (go_at_call 18; refine (HS.out _).mono ?_; rintro e w8 ⟨rfl, rfl⟩) | (go_at_call 14; refine (converts_any _).mono ?_; rintro e w9 ⟨rfl, hb9⟩; obtain ⟨hc9, hf9⟩ := bcell hb9; have hz9 : w.heap.size < w9.heap.size := (by have := hb9.size; (try simp at this); omega)))
  go_ret
  exact ⟨rfl, by repeat (first | exact Below.refl _ _ | exact (Below.refl _ _).alloc (Nat.le_refl _) _ | refine Below.drew ?_ | refine below_drewN ?_ _ | refine Below.setCell ?_ (by first | omega | (simp; omega) | simp) _ | refine Below.alloc ?_ (by first | omega | (simp; omega) | simp) _ | refine up_below ?_ (Nat.le_refl _) (by assumption))⟩

set_option maxRecDepth 100000 in
set_option maxHeartbeats 1000000 in
theorem lawCvF_bigu_w (k : ByteArray) (n u : Int) (f : Nat) (s : ByteArray) (h1 : (k.toList == [102, 108, 111, 97, 116, 54, 52]) = false) (HZ : Hid (∀ w, Calls Tryd.prog 12 #[.agg #[.string k, .int .i64 n, .int .u64 u, .float .f64 f, .string s]] w fun e w' => e = .returned (.bool true) ∧ Below w.heap.size w w')) (HV : Hid (∀ w, Calls Tryd.prog 13 #[.agg #[.string k, .int .i64 n, .int .u64 u, .float .f64 f, .string s]] w fun e w' => e = .returned (.bool true) ∧ Below w.heap.size w w')) (HI : Hid (∀ w, Calls Tryd.prog 17 #[.agg #[.string k, .int .i64 n, .int .u64 u, .float .f64 f, .string s]] w fun e w' => e = .returned (.bool true) ∧ Below w.heap.size w w')) (HS : Hid (∀ w, Calls Tryd.prog 18 #[.int .i64 n] w fun e w' => e = .returned (.int .u64 (n.natAbs : Int)) ∧ w = w')) (h4 : (n.natAbs : Int) ≤ 16777216) (h5 : 16777216 < u) (w : World) : Calls Tryd.prog 4 #[.agg #[.string k, .int .i64 n, .int .u64 u, .float .f64 f, .string s], .bool true] w fun e w' => e = .returned (.bool true) ∧ Below w.heap.size w w' := by
  go_enter Tryd.func4, Tryd.ntmps4
  go_wp2_with (first | (go_at_call 12; refine (HZ.out _).mono ?_; rintro e w1 ⟨rfl, hb1⟩; obtain ⟨hc1, hf1⟩ := bcell hb1; have hz1 : w.heap.size < w1.heap.size := (by have := hb1.size; (try simp at this); omega)) | (go_at_call 13; refine (HV.out _).mono ?_; rintro e w2 ⟨rfl, hb2⟩; obtain ⟨hc2, hf2⟩ := bcell hb2; have hz2 : w.heap.size < w2.heap.size := (by have := hb2.size; (try simp at this); omega)) | (go_at_call 17; refine (HI.out _).mono ?_; rintro e w3 ⟨rfl, hb3⟩; obtain ⟨hc3, hf3⟩ := bcell hb3; have hz3 : w.heap.size < w3.heap.size := (by have := hb3.size; (try simp at this); omega)) | (go_at_call 18; refine (HS.out _).mono ?_; rintro e w8 ⟨rfl, rfl⟩) | (go_at_call 14; refine (converts_any _).mono ?_; rintro e w9 ⟨rfl, hb9⟩; obtain ⟨hc9, hf9⟩ := bcell hb9; have hz9 : w.heap.size < w9.heap.size := (by have := hb9.size; (try simp at this); omega)))
  go_ret
  exact ⟨rfl, by repeat (first | exact Below.refl _ _ | exact (Below.refl _ _).alloc (Nat.le_refl _) _ | refine Below.drew ?_ | refine below_drewN ?_ _ | refine Below.setCell ?_ (by first | omega | (simp; omega) | simp) _ | refine Below.alloc ?_ (by first | omega | (simp; omega) | simp) _ | refine up_below ?_ (Nat.le_refl _) (by assumption))⟩

set_option maxRecDepth 100000 in
set_option maxHeartbeats 1000000 in
theorem lawCvF_f64_w (k : ByteArray) (n u : Int) (f : Nat) (s : ByteArray) (a : Addr) (h1 : k.toList = [102, 108, 111, 97, 116, 54, 52]) (h2 : (FloatKind.f64.format.order f 14279012646494702826 == some .gt) = true) (h3 : (FloatKind.f64.format.order f 5055640609639927018 == some .lt) = true) (c1 : ∀ W, (convert 28 37 (.float .f64 f)).run Tryd.prog W = .ok (.float .f32 (Flt.down f)) W) (c2 : ∀ W, (convert 37 28 (.float .f32 (Flt.down f))).run Tryd.prog W = .ok (.float .f64 (Flt.up (Flt.down f))) W) (HZ : Hid (∀ w, Calls Tryd.prog 12 #[.agg #[.string k, .int .i64 n, .int .u64 u, .float .f64 f, .string s]] w fun e w' => e = .returned (.bool true) ∧ Below w.heap.size w w')) (HV : Hid (∀ w, Calls Tryd.prog 13 #[.agg #[.string k, .int .i64 n, .int .u64 u, .float .f64 f, .string s]] w fun e w' => e = .returned (.bool true) ∧ Below w.heap.size w w')) (HC : Hid (∀ w, Has w a → Calls Tryd.prog 15 #[.agg #[.string k, .int .i64 n, .int .u64 u, .float .f64 f, .string s], .string f32S] w fun e w' => e = .returned (.tuple #[.agg #[.string f32S, .int .i64 0, .int .u64 0, .float .f64 (Flt.up (Flt.down f)), .string ⟨#[]⟩], .int .i64 0]) ∧ Below w.heap.size w w')) (w : World) (hg : Has w a) : Calls Tryd.prog 4 #[.agg #[.string k, .int .i64 n, .int .u64 u, .float .f64 f, .string s], .bool true] w fun e w' => e = .returned (.bool true) ∧ Below w.heap.size w w' := by
  have hS : f32S.toList = [102, 108, 111, 97, 116, 51, 50] := by decide +kernel
  have HG := Lib.hid hg
  clear hg
  go_enter Tryd.func4, Tryd.ntmps4
  go_wp2_with (first | (go_at_call 12; refine (HZ.out _).mono ?_; rintro e w1 ⟨rfl, hb1⟩; obtain ⟨hc1, hf1⟩ := bcell hb1; have hz1 : w.heap.size < w1.heap.size := (by have := hb1.size; (try simp at this); omega)) | (go_at_call 13; refine (HV.out _).mono ?_; rintro e w2 ⟨rfl, hb2⟩; obtain ⟨hc2, hf2⟩ := bcell hb2; have hz2 : w.heap.size < w2.heap.size := (by have := hb2.size; (try simp at this); omega)) | (go_at_call 15; refine (HC.out _ (HG.out.of (by repeat (first | exact Below.refl _ _ | exact (Below.refl _ _).alloc (Nat.le_refl _) _ | refine Below.drew ?_ | refine below_drewN ?_ _ | refine Below.setCell ?_ (by first | omega | (simp; omega) | simp) _ | refine Below.alloc ?_ (by first | omega | (simp; omega) | simp) _ | refine up_below ?_ (Nat.le_refl _) (by assumption))))).mono ?_; rintro e w4 ⟨rfl, hb4⟩; obtain ⟨hc4, hf4⟩ := bcell hb4; have hz4 : w.heap.size < w4.heap.size := (by have := hb4.size; (try simp at this); omega)))
  refine wp_region_bw (by kernel_rfl) (by kernel_rfl) ?_
  repeat (go_big_quiet_step ((first | (go_at_call 16; exact bw_of ((bits_any _ _).mono fun _ _ h => ⟨h.1, by rw [← h.2]; exact Below.refl _ _⟩)) | (go_at_call 14; exact bw_of (converts_any _)))))
  refine wpQuiet_nil ?_
  intro _ hw'
  obtain ⟨pq, hw''⟩ := hw'
  subst hw''
  have hbq := pq.h
  go_wp2
  go_ret
  exact ⟨rfl, up_below (((up_below (up_below (up_below ((Below.refl _ _).alloc (Nat.le_refl _) _) (Nat.le_refl _) hb1) (Nat.le_refl _) hb2) (Nat.le_refl _) hb4)).alloc (by omega) _) (Nat.le_refl _) hbq⟩

set_option maxRecDepth 100000 in
set_option maxHeartbeats 1000000 in
theorem lawCvF_main_w (k : ByteArray) (n u : Int) (f : Nat) (s : ByteArray) (a : Addr) (g r : Nat) (h1 : (k.toList == [102, 108, 111, 97, 116, 54, 52]) = false) (h4 : (n.natAbs : Int) ≤ 16777216) (h5 : u ≤ 16777216) (c1 : ∀ W, (binOp .add 28 (.float .f64 (floatOfInt .f64 n)) (.float .f64 (floatOfInt .f64 u))).run Tryd.prog W = .ok (.float .f64 r) W) (h6 : (FloatKind.f64.format.order g r == some .eq) = true) (HZ : Hid (∀ w, Calls Tryd.prog 12 #[.agg #[.string k, .int .i64 n, .int .u64 u, .float .f64 f, .string s]] w fun e w' => e = .returned (.bool true) ∧ Below w.heap.size w w')) (HV : Hid (∀ w, Calls Tryd.prog 13 #[.agg #[.string k, .int .i64 n, .int .u64 u, .float .f64 f, .string s]] w fun e w' => e = .returned (.bool true) ∧ Below w.heap.size w w')) (HI : Hid (∀ w, Calls Tryd.prog 17 #[.agg #[.string k, .int .i64 n, .int .u64 u, .float .f64 f, .string s]] w fun e w' => e = .returned (.bool true) ∧ Below w.heap.size w w')) (HS : Hid (∀ w, Calls Tryd.prog 18 #[.int .i64 n] w fun e w' => e = .returned (.int .u64 (n.natAbs : Int)) ∧ w = w')) (HC : Hid (∀ w, Has w a → Calls Tryd.prog 15 #[.agg #[.string k, .int .i64 n, .int .u64 u, .float .f64 f, .string s], .string f64S] w fun e w' => e = .returned (.tuple #[.agg #[.string f64S, .int .i64 0, .int .u64 0, .float .f64 g, .string ⟨#[]⟩], .int .i64 0]) ∧ Below w.heap.size w w')) (HD : Hid (∀ w, Has w a → Calls Tryd.prog 15 #[.agg #[.string f64S, .int .i64 0, .int .u64 0, .float .f64 g, .string ⟨#[]⟩], .string k] w fun e w' => ∃ kj nj uj gj sj, e = .returned (.tuple #[.agg #[.string kj, .int .i64 nj, .int .u64 uj, .float .f64 gj, .string sj], .int .i64 0]) ∧ Below w.heap.size w w' ∧ sameB kj nj uj gj sj k n u f s = true)) (w : World) (hg : Has w a) : Calls Tryd.prog 4 #[.agg #[.string k, .int .i64 n, .int .u64 u, .float .f64 f, .string s], .bool true] w fun e w' => e = .returned (.bool true) ∧ Below w.heap.size w w' := by
  have hS : f64S.toList = [102, 108, 111, 97, 116, 54, 52] := by decide +kernel
  have HG := Lib.hid hg
  clear hg
  go_enter Tryd.func4, Tryd.ntmps4
  go_wp2_with (first | (go_at_call 12; refine (HZ.out _).mono ?_; rintro e w1 ⟨rfl, hb1⟩; obtain ⟨hc1, hf1⟩ := bcell hb1; have hz1 : w.heap.size < w1.heap.size := (by have := hb1.size; (try simp at this); omega)) | (go_at_call 13; refine (HV.out _).mono ?_; rintro e w2 ⟨rfl, hb2⟩; obtain ⟨hc2, hf2⟩ := bcell hb2; have hz2 : w.heap.size < w2.heap.size := (by have := hb2.size; (try simp at this); omega)) | (go_at_call 17; refine (HI.out _).mono ?_; rintro e w3 ⟨rfl, hb3⟩; obtain ⟨hc3, hf3⟩ := bcell hb3; have hz3 : w.heap.size < w3.heap.size := (by have := hb3.size; (try simp at this); omega)) | (go_at_call 18; refine (HS.out _).mono ?_; rintro e w8 ⟨rfl, rfl⟩) | (go_at_call 14; refine (converts_any _).mono ?_; rintro e w9 ⟨rfl, hb9⟩; obtain ⟨hc9, hf9⟩ := bcell hb9; have hz9 : w.heap.size < w9.heap.size := (by have := hb9.size; (try simp at this); omega)) | (go_at_call_of 15 (Value.agg #[.string k, .int .i64 n, .int .u64 u, .float .f64 f, .string s]); refine (HC.out _ (HG.out.of (by repeat (first | exact Below.refl _ _ | exact (Below.refl _ _).alloc (Nat.le_refl _) _ | refine Below.drew ?_ | refine below_drewN ?_ _ | refine Below.setCell ?_ (by first | omega | (simp; omega) | simp) _ | refine Below.alloc ?_ (by first | omega | (simp; omega) | simp) _ | refine up_below ?_ (Nat.le_refl _) (by assumption))))).mono ?_; rintro e w4 ⟨rfl, hb4⟩; obtain ⟨hc4, hf4⟩ := bcell hb4; have hz4 : w.heap.size < w4.heap.size := (by have := hb4.size; (try simp at this); omega)) | (go_at_call 15; refine (HD.out _ (HG.out.of (by repeat (first | exact Below.refl _ _ | exact (Below.refl _ _).alloc (Nat.le_refl _) _ | refine Below.drew ?_ | refine below_drewN ?_ _ | refine Below.setCell ?_ (by first | omega | (simp; omega) | simp) _ | refine Below.alloc ?_ (by first | omega | (simp; omega) | simp) _ | refine up_below ?_ (Nat.le_refl _) (by assumption))))).mono ?_; rintro e w5 ⟨kj, nj, uj, gj, sj, rfl, hb5, hq⟩; have HQ := Lib.hid hq; clear hq; obtain ⟨hc5, hf5⟩ := bcell hb5; have hz5 : w.heap.size < w5.heap.size := (by have := hb5.size; (try simp at this); omega); have hx5 : w4.heap.size < w5.heap.size := (by have := hb5.size; (try simp at this); omega)) | (go_at_call 19; refine (same_true _ _ _ _ _ _ _ _ _ _ HQ.out _).mono ?_; rintro e w6 ⟨rfl, hb6⟩; obtain ⟨hc6, hf6⟩ := bcell hb6; have hz6 : w.heap.size < w6.heap.size := (by have := hb6.size; (try simp at this); omega); have hx6 : w4.heap.size < w6.heap.size := (by have := hb6.size; (try simp at this); omega); have hx7 : w5.heap.size < w6.heap.size := (by have := hb6.size; (try simp at this); omega)))
  go_ret
  exact ⟨rfl, by repeat (first | exact Below.refl _ _ | exact (Below.refl _ _).alloc (Nat.le_refl _) _ | refine Below.drew ?_ | refine below_drewN ?_ _ | refine Below.setCell ?_ (by first | omega | (simp; omega) | simp) _ | refine Below.alloc ?_ (by first | omega | (simp; omega) | simp) _ | refine up_below ?_ (Nat.le_refl _) (by assumption))⟩

theorem key_eq {g r : Nat} {K : Int} (h1 : Flt.key64 g = some K) (h2 : Flt.key64 r = some K) : (FloatKind.f64.format.order g r == some .eq) = true := by
  show (Ieee.double.order g r == some .eq) = true
  rw [Flt.order64, h1, h2]
  simp

/-- The two floats of an integer's fields: one is zero. -/
theorem sum_of {q : IntKind} {n u : Int} {f : Nat} {s : ByteArray} (hv : validB (.int q) n u f s = true) (hm : (n + u).natAbs ≤ 2 ^ 24) : ∃ r, Ieee.double.add (FloatKind.f64.nearest n) (FloatKind.f64.nearest u) = some r ∧ Flt.key64 r = some ((n + u) * ((2 ^ 1074 : Nat) : Int)) := by
  have h0 : n = 0 ∨ u = 0 := by
    cases q <;> simp only [validB, Bool.and_eq_true, beq_iff_eq] at hv <;> first | exact .inr hv.1.1 | exact .inl hv.1.1 | exact .inl hv.1 | omega
  rcases h0 with rfl | rfl
  · rw [Int.zero_add] at hm ⊢
    rw [Flt.near0]
    exact Flt.zero_add_key hm
  · rw [Int.add_zero] at hm ⊢
    rw [Flt.near0]
    exact Flt.add_zero_key hm

theorem top_lo : Flt.key64 5055640609639927018 = some ((Flt.key64 5055640609639927018).getD 0) ∧ (Flt.key64 5055640609639927018).getD 0 < ((2 ^ 1201 : Nat) : Int) := by decide +kernel
theorem top_hi : Flt.key64 14279012646494702826 = some ((Flt.key64 14279012646494702826).getD 0) ∧ -((2 ^ 1201 : Nat) : Int) < (Flt.key64 14279012646494702826).getD 0 := by decide +kernel

theorem lawCvF_walk (k : ByteArray) (n u : Int) (f : Nat) (s : ByteArray) (hr : Rng n u f) (b : Bool) (a : Addr) (w : World) (hg : Has w a) : Calls Tryd.prog 4 #[.agg #[.string k, .int .i64 n, .int .u64 u, .float .f64 f, .string s], .bool b] w fun e w' => e = .returned (.bool true) ∧ Below w.heap.size w w' := by
  have hz := fun w => zzFits1_any k n u f s w
  cases h1 : fitsB k s with
  | false =>
    rw [h1] at hz
    cases b
    · exact lawCvF_long_n k n u f s hz w
    · exact lawCvF_long_w k n u f s hz w
  | true =>
  rw [h1] at hz
  have hc := fun w => concrete_any k n u f s w
  cases h2 : concB (Kd.of k.toList) n u f s with
  | false =>
    rw [h2] at hc
    cases b
    · exact lawCvF_not_n k n u f s hz hc w
    · exact lawCvF_not_w k n u f s hz hc w
  | true =>
  rw [h2] at hc
  have hv := conc_valid h2
  have hi := fun w => isInteger_any k n u f s w
  cases h3 : (k.toList == [102, 108, 111, 97, 116, 54, 52]) with
  | true =>
    have hkl : k.toList = [102, 108, 111, 97, 116, 54, 52] := eq_of_beq h3
    have hkd : Kd.of k.toList = .f64 := by rw [hkl]; decide
    have hni : (decide (0 < (Kd.of k.toList).width) && concB (Kd.of k.toList) n u f s) = false := by rw [hkd]; rfl
    rw [hni] at hi
    cases h4 : (FloatKind.f64.format.order f 14279012646494702826 == some .gt) with
    | false =>
      cases b
      · exact lawCvF_ni_lo_n k n u f s hkl h4 hz hc hi w
      · exact lawCvF_ni_lo_w k n u f s hkl h4 hz hc hi w
    | true =>
    cases h5 : (FloatKind.f64.format.order f 5055640609639927018 == some .lt) with
    | false =>
      cases b
      · exact lawCvF_ni_hi_n k n u f s hkl h4 h5 hz hc hi w
      · exact lawCvF_ni_hi_w k n u f s hkl h4 h5 hz hc hi w
    | true =>
    have hnb : numB f = true := by
      unfold concB at h2
      simp only [Bool.and_eq_true] at h2
      exact h2.2
    have hnn : (Ieee.double.read f).isNaN = false := by rw [numB_nan] at hnb; simpa using hnb
    have hfin := Flt.down_fin top_lo.1 top_hi.1 top_lo.2 top_hi.2 (eq_of_beq h5) (eq_of_beq h4)
    have c1 := fun W => run_narrow f (by rw [hfin]; rfl) hnn W
    have c2 := fun W => run_wide (Flt.down f) (down_num hnn) W
    cases b
    · exact lawCvF_f64_n k n u f s a hkl h4 h5 c1 c2 hz hc (fun w hg => implCv_down k n u f s hr hv hkd hnn hfin a w hg) w hg
    · exact lawCvF_f64_w k n u f s a hkl h4 h5 c1 c2 hz hc (fun w hg => implCv_down k n u f s hr hv hkd hnn hfin a w hg) w hg
  | false =>
  cases h4 : decide (0 < (Kd.of k.toList).width) && concB (Kd.of k.toList) n u f s with
  | false =>
    rw [h4] at hi
    cases b
    · exact lawCvF_ni_k_n k n u f s h3 hz hc hi w
    · exact lawCvF_ni_k_w k n u f s h3 hz hc hi w
  | true =>
  rw [h4] at hi
  rw [Bool.and_eq_true, decide_eq_true_eq] at h4
  have hq : ∃ q, Kd.of k.toList = .int q := by
    obtain ⟨h5, h6⟩ := h4
    unfold concB at h6
    simp only [Bool.and_eq_true, Bool.not_eq_true'] at h6
    have h7 := h6.1.2
    clear hi hv h6 hc h2
    generalize Kd.of k.toList = K at *
    cases K with
    | int q => exact ⟨q, rfl⟩
    | _ => first | exact absurd h5 (by decide) | exact absurd h7 (by decide)
  obtain ⟨q, hk⟩ := hq
  obtain ⟨r1, r2, r3, r4, r5⟩ := hr
  have hs := fun w => size_any n r1 r2 w
  by_cases h5 : 16777216 < (n.natAbs : Int)
  · cases b
    · exact lawCvF_big_n k n u f s h3 hz hc hi hs h5 w
    · exact lawCvF_big_w k n u f s h3 hz hc hi hs h5 w
  by_cases h6 : 16777216 < u
  · cases b
    · exact lawCvF_bigu_n k n u f s h3 hz hc hi hs (by omega) h6 w
    · exact lawCvF_bigu_w k n u f s h3 hz hc hi hs (by omega) h6 w
  have hv' := hv
  rw [hk] at hv'
  have hm : (n + u).natAbs ≤ 2 ^ 24 := by
    have h0 : n = 0 ∨ u = 0 := by
      cases q <;> simp only [validB, Bool.and_eq_true, beq_iff_eq] at hv' <;> first | exact .inr hv'.1.1 | exact .inl hv'.1.1 | exact .inl hv'.1 | omega
    rcases h0 with rfl | rfl <;> omega
  obtain ⟨r, hadd, hkr⟩ := sum_of hv' hm
  have c1 := fun W => run_float_arith (P := Tryd.prog) W .add 28 .f64 (FloatKind.f64.nearest n) (FloatKind.f64.nearest u) r hadd
  have hr' : Rng n u f := ⟨r1, r2, r3, r4, r5⟩
  cases b
  · refine lawCvF_main_n k n u f s a _ r h3 (by omega) (by omega) c1 (key_eq ?_ hkr) hz hc hi hs (fun w hg => implCv_tof32 q k n u f s hr' hv hk hm a w hg) (fun w hg => implCv_off32 q k n u f s hr' hv hk hm a w hg) w hg
    have hkey := (Flt.key_near_s hm).1
    rw [(Flt.up_key (Flt.not_nan_of_key hkey)).1]
    exact hkey
  · exact lawCvF_main_w k n u f s a _ r h3 (by omega) (by omega) c1 (key_eq (Flt.key_near_d hm) hkr) hz hc hi hs (fun w hg => implCv_tof64 q k n u f s hr' hv hk hm a w hg) (fun w hg => implCv_off64 q k n u f s hr' hv hk hm a w hg) w hg

end Go.Proofs.YtiijcmdfbgoafaaDoor
