/-
  The walk of laws.FnExactCollateRows: it returns true. PRINTED BY wip/tpl/gen_lawxcr.py.
-/
import Derived.Test.YtiijcmdfbgoafaaSc8
namespace Go.Proofs.Ytiijcmdfbgoafaa
open Go.RowKit

set_option maxRecDepth 100000 in
set_option maxHeartbeats 1000000 in
theorem lawXcr_longA (l m : List VV) (A B : Option Addr) (c d : Nat) (w : World) (HZA : Hid (∀ w', Below w.heap.size w w' → Calls Try.prog 15 #[Value.slice A l.length c] w' fun e w'' => e = .returned (.bool false) ∧ Below w'.heap.size w' w'')) : Calls Try.prog 6 #[Value.slice A l.length c, Value.slice B m.length d] w fun e w' => e = .returned (.bool true) ∧ Below w.heap.size w w' := by
  go_enter Try.func6, Try.ntmps6
  go_wp2_with (first | (go_at_call_of 15 (Value.slice A l.length c); refine (HZA.out _ (Below.refl _ _)).mono ?_; rintro e w1 ⟨rfl, hb1⟩; have hB1 := up_below' (Below.refl _ _) hb1))
  go_ret
  exact ⟨rfl, hB1⟩

set_option maxRecDepth 100000 in
set_option maxHeartbeats 1000000 in
theorem lawXcr_longB (l m : List VV) (A B : Option Addr) (c d : Nat) (w : World) (HZA : Hid (∀ w', Below w.heap.size w w' → Calls Try.prog 15 #[Value.slice A l.length c] w' fun e w'' => e = .returned (.bool true) ∧ Below w'.heap.size w' w'')) (HZB : Hid (∀ w', Below w.heap.size w w' → Calls Try.prog 15 #[Value.slice B m.length d] w' fun e w'' => e = .returned (.bool false) ∧ Below w'.heap.size w' w'')) : Calls Try.prog 6 #[Value.slice A l.length c, Value.slice B m.length d] w fun e w' => e = .returned (.bool true) ∧ Below w.heap.size w w' := by
  go_enter Try.func6, Try.ntmps6
  go_wp2_with (first | (go_at_call_of 15 (Value.slice A l.length c); refine (HZA.out _ (Below.refl _ _)).mono ?_; rintro e w1 ⟨rfl, hb1⟩; have hB1 := up_below' (Below.refl _ _) hb1) | (go_at_call 15; refine (HZB.out _ hB1).mono ?_; rintro e w2 ⟨rfl, hb2⟩; have hB2 := up_below' (hB1) hb2))
  go_ret
  exact ⟨rfl, hB2⟩

set_option maxRecDepth 100000 in
set_option maxHeartbeats 1000000 in
theorem lawXcr_lenA (l m : List VV) (A B : Option Addr) (c d : Nat) (w : World) (a1 : 100 < l.length) (HZA : Hid (∀ w', Below w.heap.size w w' → Calls Try.prog 15 #[Value.slice A l.length c] w' fun e w'' => e = .returned (.bool true) ∧ Below w'.heap.size w' w'')) (HZB : Hid (∀ w', Below w.heap.size w w' → Calls Try.prog 15 #[Value.slice B m.length d] w' fun e w'' => e = .returned (.bool true) ∧ Below w'.heap.size w' w'')) : Calls Try.prog 6 #[Value.slice A l.length c, Value.slice B m.length d] w fun e w' => e = .returned (.bool true) ∧ Below w.heap.size w w' := by
  go_enter Try.func6, Try.ntmps6
  go_wp2_with (first | (go_at_call_of 15 (Value.slice A l.length c); refine (HZA.out _ (Below.refl _ _)).mono ?_; rintro e w1 ⟨rfl, hb1⟩; have hB1 := up_below' (Below.refl _ _) hb1) | (go_at_call 15; refine (HZB.out _ hB1).mono ?_; rintro e w2 ⟨rfl, hb2⟩; have hB2 := up_below' (hB1) hb2) | (go_at_call 10; refine (collates_any _).mono ?_; rintro e w9 ⟨rfl, hb9⟩; have hB9 := up_below' hB2 hb9))
  go_ret
  exact ⟨rfl, hB9⟩

set_option maxRecDepth 100000 in
set_option maxHeartbeats 1000000 in
theorem lawXcr_lenB (l m : List VV) (A B : Option Addr) (c d : Nat) (w : World) (a1 : l.length ≤ 100) (a2 : 100 < m.length) (HZA : Hid (∀ w', Below w.heap.size w w' → Calls Try.prog 15 #[Value.slice A l.length c] w' fun e w'' => e = .returned (.bool true) ∧ Below w'.heap.size w' w'')) (HZB : Hid (∀ w', Below w.heap.size w w' → Calls Try.prog 15 #[Value.slice B m.length d] w' fun e w'' => e = .returned (.bool true) ∧ Below w'.heap.size w' w'')) : Calls Try.prog 6 #[Value.slice A l.length c, Value.slice B m.length d] w fun e w' => e = .returned (.bool true) ∧ Below w.heap.size w w' := by
  go_enter Try.func6, Try.ntmps6
  go_wp2_with (first | (go_at_call_of 15 (Value.slice A l.length c); refine (HZA.out _ (Below.refl _ _)).mono ?_; rintro e w1 ⟨rfl, hb1⟩; have hB1 := up_below' (Below.refl _ _) hb1) | (go_at_call 15; refine (HZB.out _ hB1).mono ?_; rintro e w2 ⟨rfl, hb2⟩; have hB2 := up_below' (hB1) hb2) | (go_at_call 10; refine (collates_any _).mono ?_; rintro e w9 ⟨rfl, hb9⟩; have hB9 := up_below' hB2 hb9))
  go_ret
  exact ⟨rfl, hB9⟩

set_option maxRecDepth 100000 in
set_option maxHeartbeats 1000000 in
theorem lawXcr_notA (l m : List VV) (A B : Option Addr) (c d : Nat) (w : World) (a1 : l.length ≤ 100) (a2 : m.length ≤ 100) (HZA : Hid (∀ w', Below w.heap.size w w' → Calls Try.prog 15 #[Value.slice A l.length c] w' fun e w'' => e = .returned (.bool true) ∧ Below w'.heap.size w' w'')) (HZB : Hid (∀ w', Below w.heap.size w w' → Calls Try.prog 15 #[Value.slice B m.length d] w' fun e w'' => e = .returned (.bool true) ∧ Below w'.heap.size w' w'')) (HVA : Hid (∀ w', Below w.heap.size w w' → Calls Try.prog 16 #[Value.slice A l.length c] w' fun e w'' => e = .returned (.bool false) ∧ Below w'.heap.size w' w'')) : Calls Try.prog 6 #[Value.slice A l.length c, Value.slice B m.length d] w fun e w' => e = .returned (.bool true) ∧ Below w.heap.size w w' := by
  go_enter Try.func6, Try.ntmps6
  go_wp2_with (first | (go_at_call_of 15 (Value.slice A l.length c); refine (HZA.out _ (Below.refl _ _)).mono ?_; rintro e w1 ⟨rfl, hb1⟩; have hB1 := up_below' (Below.refl _ _) hb1) | (go_at_call 15; refine (HZB.out _ hB1).mono ?_; rintro e w2 ⟨rfl, hb2⟩; have hB2 := up_below' (hB1) hb2) | (go_at_call_of 16 (Value.slice A l.length c); refine (HVA.out _ hB2).mono ?_; rintro e w3 ⟨rfl, hb3⟩; have hB3 := up_below' (hB2) hb3) | (go_at_call 10; refine (collates_any _).mono ?_; rintro e w9 ⟨rfl, hb9⟩; have hB9 := up_below' hB3 hb9))
  go_ret
  exact ⟨rfl, hB9⟩

set_option maxRecDepth 100000 in
set_option maxHeartbeats 1000000 in
theorem lawXcr_notB (l m : List VV) (A B : Option Addr) (c d : Nat) (w : World) (a1 : l.length ≤ 100) (a2 : m.length ≤ 100) (HZA : Hid (∀ w', Below w.heap.size w w' → Calls Try.prog 15 #[Value.slice A l.length c] w' fun e w'' => e = .returned (.bool true) ∧ Below w'.heap.size w' w'')) (HZB : Hid (∀ w', Below w.heap.size w w' → Calls Try.prog 15 #[Value.slice B m.length d] w' fun e w'' => e = .returned (.bool true) ∧ Below w'.heap.size w' w'')) (HVA : Hid (∀ w', Below w.heap.size w w' → Calls Try.prog 16 #[Value.slice A l.length c] w' fun e w'' => e = .returned (.bool true) ∧ Below w'.heap.size w' w'')) (HVB : Hid (∀ w', Below w.heap.size w w' → Calls Try.prog 16 #[Value.slice B m.length d] w' fun e w'' => e = .returned (.bool false) ∧ Below w'.heap.size w' w'')) : Calls Try.prog 6 #[Value.slice A l.length c, Value.slice B m.length d] w fun e w' => e = .returned (.bool true) ∧ Below w.heap.size w w' := by
  go_enter Try.func6, Try.ntmps6
  go_wp2_with (first | (go_at_call_of 15 (Value.slice A l.length c); refine (HZA.out _ (Below.refl _ _)).mono ?_; rintro e w1 ⟨rfl, hb1⟩; have hB1 := up_below' (Below.refl _ _) hb1) | (go_at_call 15; refine (HZB.out _ hB1).mono ?_; rintro e w2 ⟨rfl, hb2⟩; have hB2 := up_below' (hB1) hb2) | (go_at_call_of 16 (Value.slice A l.length c); refine (HVA.out _ hB2).mono ?_; rintro e w3 ⟨rfl, hb3⟩; have hB3 := up_below' (hB2) hb3) | (go_at_call 16; refine (HVB.out _ hB3).mono ?_; rintro e w4 ⟨rfl, hb4⟩; have hB4 := up_below' (hB3) hb4) | (go_at_call 10; refine (collates_any _).mono ?_; rintro e w9 ⟨rfl, hb9⟩; have hB9 := up_below' hB4 hb9))
  go_ret
  exact ⟨rfl, hB9⟩

theorem implRows_12 (A B : Option Addr) (w : World) (hA : LAt w A [numV 1]) (hB : LAt w B [numV 2]) :
    Calls Try.prog 18 #[.slice A 1 1, .slice B 1 1, .bool false] w (ColP (-1) w) := by
  have h := implRows_any [numV 1] [numV 2] A B 1 1 rfl (by decide) numV_conc.1 numV_conc.2.1 w hA hB
  rw [numV_conc.2.2] at h
  exact h

theorem sign_of (n v : Int) (h : sgn n = v) (w : World) : Calls Try.prog 13 #[.int .i64 n] w fun e w' => e = .returned (.int .i64 v) ∧ w = w' := by
  rw [← h]
  exact sign_any n w

set_option maxRecDepth 100000 in
set_option maxHeartbeats 1000000 in
theorem lawXcr_unsaid (l m : List VV) (A B : Option Addr) (c d : Nat) (w : World) (a1 : l.length ≤ 100) (a2 : m.length ≤ 100) (HZA : Hid (∀ w', Below w.heap.size w w' → Calls Try.prog 15 #[Value.slice A l.length c] w' fun e w'' => e = .returned (.bool true) ∧ Below w'.heap.size w' w'')) (HZB : Hid (∀ w', Below w.heap.size w w' → Calls Try.prog 15 #[Value.slice B m.length d] w' fun e w'' => e = .returned (.bool true) ∧ Below w'.heap.size w' w'')) (HVA : Hid (∀ w', Below w.heap.size w w' → Calls Try.prog 16 #[Value.slice A l.length c] w' fun e w'' => e = .returned (.bool true) ∧ Below w'.heap.size w' w'')) (HVB : Hid (∀ w', Below w.heap.size w w' → Calls Try.prog 16 #[Value.slice B m.length d] w' fun e w'' => e = .returned (.bool true) ∧ Below w'.heap.size w' w'')) (r : Int) (HR : Hid (∀ w', Below w.heap.size w w' → Calls Try.prog 17 #[Value.slice A l.length c, Value.slice B m.length d] w' fun e w'' => e = .returned (.tuple #[.int .i64 r, .bool false]) ∧ Below w'.heap.size w' w'')) : Calls Try.prog 6 #[Value.slice A l.length c, Value.slice B m.length d] w fun e w' => e = .returned (.bool true) ∧ Below w.heap.size w w' := by
  go_enter Try.func6, Try.ntmps6
  go_wp2_with (first | (go_at_call_of 15 (Value.slice A l.length c); refine (HZA.out _ (Below.refl _ _)).mono ?_; rintro e w1 ⟨rfl, hb1⟩; have hB1 := up_below' (Below.refl _ _) hb1) | (go_at_call 15; refine (HZB.out _ hB1).mono ?_; rintro e w2 ⟨rfl, hb2⟩; have hB2 := up_below' (hB1) hb2) | (go_at_call_of 16 (Value.slice A l.length c); refine (HVA.out _ hB2).mono ?_; rintro e w3 ⟨rfl, hb3⟩; have hB3 := up_below' (hB2) hb3) | (go_at_call 16; refine (HVB.out _ hB3).mono ?_; rintro e w4 ⟨rfl, hb4⟩; have hB4 := up_below' (hB3) hb4) | (go_at_call 17; refine (HR.out _ hB4).mono ?_; rintro e w5 ⟨rfl, hb5⟩; have hB5 := up_below' (hB4) hb5) | (go_at_call_of 19 (Value.int .i64 1); refine (num_any _ _).mono ?_; rintro e w6 ⟨rfl, hb6⟩; have hB6 := up_below' (hB5) hb6) | (go_at_call 19; refine (num_any _ _).mono ?_; rintro e w7 ⟨rfl, hb7⟩; have hB7 := up_below' (hB6.alloc hB6.size _) hb7) | (go_at_call 18; refine (implRows_12 _ _ _ (((lat_new w6 (numV 1) _).below hb7).below ((Below.refl _ _).alloc (Nat.le_refl _) _)) (lat_new w7 (numV 2) _)).mono ?_; rintro e w8 ⟨rfl, hb8⟩; have hB8 := up_below' (hB7.alloc hB7.size _) hb8) | (go_at_call 13; (first | refine (sign_of _ (-1) (by decide) _).mono ?_ | refine (sign_of _ 0 (by decide) _).mono ?_ | refine (sign_of _ 1 (by decide) _).mono ?_); rintro e wS ⟨rfl, rfl⟩))
  go_ret
  exact ⟨rfl, hB8⟩

set_option maxRecDepth 100000 in
set_option maxHeartbeats 1000000 in
theorem lawXcr_said_lt (l m : List VV) (A B : Option Addr) (c d : Nat) (w : World) (a1 : l.length ≤ 100) (a2 : m.length ≤ 100) (HZA : Hid (∀ w', Below w.heap.size w w' → Calls Try.prog 15 #[Value.slice A l.length c] w' fun e w'' => e = .returned (.bool true) ∧ Below w'.heap.size w' w'')) (HZB : Hid (∀ w', Below w.heap.size w w' → Calls Try.prog 15 #[Value.slice B m.length d] w' fun e w'' => e = .returned (.bool true) ∧ Below w'.heap.size w' w'')) (HVA : Hid (∀ w', Below w.heap.size w w' → Calls Try.prog 16 #[Value.slice A l.length c] w' fun e w'' => e = .returned (.bool true) ∧ Below w'.heap.size w' w'')) (HVB : Hid (∀ w', Below w.heap.size w w' → Calls Try.prog 16 #[Value.slice B m.length d] w' fun e w'' => e = .returned (.bool true) ∧ Below w'.heap.size w' w'')) (HR : Hid (∀ w', Below w.heap.size w w' → Calls Try.prog 17 #[Value.slice A l.length c, Value.slice B m.length d] w' fun e w'' => e = .returned (.tuple #[.int .i64 (-1), .bool true]) ∧ Below w'.heap.size w' w'')) (HF : Hid (∀ w', Below w.heap.size w w' → Calls Try.prog 18 #[Value.slice A l.length c, Value.slice B m.length d, .bool false] w' fun e w'' => e = .returned (.int .i64 (-1)) ∧ Below w'.heap.size w' w'')) (HT : Hid (∀ w', Below w.heap.size w w' → Calls Try.prog 18 #[Value.slice A l.length c, Value.slice B m.length d, .bool true] w' fun e w'' => e = .returned (.int .i64 1) ∧ Below w'.heap.size w' w'')) : Calls Try.prog 6 #[Value.slice A l.length c, Value.slice B m.length d] w fun e w' => e = .returned (.bool true) ∧ Below w.heap.size w w' := by
  go_enter Try.func6, Try.ntmps6
  go_wp2_with (first | (go_at_call_of 15 (Value.slice A l.length c); refine (HZA.out _ (Below.refl _ _)).mono ?_; rintro e w1 ⟨rfl, hb1⟩; have hB1 := up_below' (Below.refl _ _) hb1) | (go_at_call 15; refine (HZB.out _ hB1).mono ?_; rintro e w2 ⟨rfl, hb2⟩; have hB2 := up_below' (hB1) hb2) | (go_at_call_of 16 (Value.slice A l.length c); refine (HVA.out _ hB2).mono ?_; rintro e w3 ⟨rfl, hb3⟩; have hB3 := up_below' (hB2) hb3) | (go_at_call 16; refine (HVB.out _ hB3).mono ?_; rintro e w4 ⟨rfl, hb4⟩; have hB4 := up_below' (hB3) hb4) | (go_at_call 17; refine (HR.out _ hB4).mono ?_; rintro e w5 ⟨rfl, hb5⟩; have hB5 := up_below' (hB4) hb5) | (go_at_call 13; (first | refine (sign_of _ (-1) (by decide) _).mono ?_ | refine (sign_of _ 0 (by decide) _).mono ?_ | refine (sign_of _ 1 (by decide) _).mono ?_); rintro e wS ⟨rfl, rfl⟩))
  go_at_call 18
  refine (HF.out _ hB5).mono ?_
  rintro e w6 ⟨rfl, hb6⟩
  have hB6 := up_below' hB5 hb6
  go_wp2_with (first | (go_at_call 13; (first | refine (sign_of _ (-1) (by decide) _).mono ?_ | refine (sign_of _ 0 (by decide) _).mono ?_ | refine (sign_of _ 1 (by decide) _).mono ?_); rintro e wS ⟨rfl, rfl⟩))
  go_at_call 18
  refine (HT.out _ hB6).mono ?_
  rintro e w7 ⟨rfl, hb7⟩
  have hB7 := up_below' hB6 hb7
  go_wp2_with (first | (go_at_call_of 19 (Value.int .i64 1); refine (num_any _ _).mono ?_; rintro e w8 ⟨rfl, hb8⟩; have hB8 := up_below' (hB7) hb8) | (go_at_call 19; refine (num_any _ _).mono ?_; rintro e w9 ⟨rfl, hb9⟩; have hB9 := up_below' (hB8.alloc hB8.size _) hb9) | (go_at_call 18; refine (implRows_12 _ _ _ (((lat_new w8 (numV 1) _).below hb9).below ((Below.refl _ _).alloc (Nat.le_refl _) _)) (lat_new w9 (numV 2) _)).mono ?_; rintro e w10 ⟨rfl, hb10⟩; have hB10 := up_below' (hB9.alloc hB9.size _) hb10) | (go_at_call 13; (first | refine (sign_of _ (-1) (by decide) _).mono ?_ | refine (sign_of _ 0 (by decide) _).mono ?_ | refine (sign_of _ 1 (by decide) _).mono ?_); rintro e wS ⟨rfl, rfl⟩))
  go_ret
  exact ⟨rfl, hB10⟩

set_option maxRecDepth 100000 in
set_option maxHeartbeats 1000000 in
theorem lawXcr_said_eq (l m : List VV) (A B : Option Addr) (c d : Nat) (w : World) (a1 : l.length ≤ 100) (a2 : m.length ≤ 100) (HZA : Hid (∀ w', Below w.heap.size w w' → Calls Try.prog 15 #[Value.slice A l.length c] w' fun e w'' => e = .returned (.bool true) ∧ Below w'.heap.size w' w'')) (HZB : Hid (∀ w', Below w.heap.size w w' → Calls Try.prog 15 #[Value.slice B m.length d] w' fun e w'' => e = .returned (.bool true) ∧ Below w'.heap.size w' w'')) (HVA : Hid (∀ w', Below w.heap.size w w' → Calls Try.prog 16 #[Value.slice A l.length c] w' fun e w'' => e = .returned (.bool true) ∧ Below w'.heap.size w' w'')) (HVB : Hid (∀ w', Below w.heap.size w w' → Calls Try.prog 16 #[Value.slice B m.length d] w' fun e w'' => e = .returned (.bool true) ∧ Below w'.heap.size w' w'')) (HR : Hid (∀ w', Below w.heap.size w w' → Calls Try.prog 17 #[Value.slice A l.length c, Value.slice B m.length d] w' fun e w'' => e = .returned (.tuple #[.int .i64 0, .bool true]) ∧ Below w'.heap.size w' w'')) (HF : Hid (∀ w', Below w.heap.size w w' → Calls Try.prog 18 #[Value.slice A l.length c, Value.slice B m.length d, .bool false] w' fun e w'' => e = .returned (.int .i64 0) ∧ Below w'.heap.size w' w'')) (HT : Hid (∀ w', Below w.heap.size w w' → Calls Try.prog 18 #[Value.slice A l.length c, Value.slice B m.length d, .bool true] w' fun e w'' => e = .returned (.int .i64 0) ∧ Below w'.heap.size w' w'')) : Calls Try.prog 6 #[Value.slice A l.length c, Value.slice B m.length d] w fun e w' => e = .returned (.bool true) ∧ Below w.heap.size w w' := by
  go_enter Try.func6, Try.ntmps6
  go_wp2_with (first | (go_at_call_of 15 (Value.slice A l.length c); refine (HZA.out _ (Below.refl _ _)).mono ?_; rintro e w1 ⟨rfl, hb1⟩; have hB1 := up_below' (Below.refl _ _) hb1) | (go_at_call 15; refine (HZB.out _ hB1).mono ?_; rintro e w2 ⟨rfl, hb2⟩; have hB2 := up_below' (hB1) hb2) | (go_at_call_of 16 (Value.slice A l.length c); refine (HVA.out _ hB2).mono ?_; rintro e w3 ⟨rfl, hb3⟩; have hB3 := up_below' (hB2) hb3) | (go_at_call 16; refine (HVB.out _ hB3).mono ?_; rintro e w4 ⟨rfl, hb4⟩; have hB4 := up_below' (hB3) hb4) | (go_at_call 17; refine (HR.out _ hB4).mono ?_; rintro e w5 ⟨rfl, hb5⟩; have hB5 := up_below' (hB4) hb5) | (go_at_call 13; (first | refine (sign_of _ (-1) (by decide) _).mono ?_ | refine (sign_of _ 0 (by decide) _).mono ?_ | refine (sign_of _ 1 (by decide) _).mono ?_); rintro e wS ⟨rfl, rfl⟩))
  go_at_call 18
  refine (HF.out _ hB5).mono ?_
  rintro e w6 ⟨rfl, hb6⟩
  have hB6 := up_below' hB5 hb6
  go_wp2_with (first | (go_at_call 13; (first | refine (sign_of _ (-1) (by decide) _).mono ?_ | refine (sign_of _ 0 (by decide) _).mono ?_ | refine (sign_of _ 1 (by decide) _).mono ?_); rintro e wS ⟨rfl, rfl⟩))
  go_at_call 18
  refine (HT.out _ hB6).mono ?_
  rintro e w7 ⟨rfl, hb7⟩
  have hB7 := up_below' hB6 hb7
  go_wp2_with (first | (go_at_call_of 19 (Value.int .i64 1); refine (num_any _ _).mono ?_; rintro e w8 ⟨rfl, hb8⟩; have hB8 := up_below' (hB7) hb8) | (go_at_call 19; refine (num_any _ _).mono ?_; rintro e w9 ⟨rfl, hb9⟩; have hB9 := up_below' (hB8.alloc hB8.size _) hb9) | (go_at_call 18; refine (implRows_12 _ _ _ (((lat_new w8 (numV 1) _).below hb9).below ((Below.refl _ _).alloc (Nat.le_refl _) _)) (lat_new w9 (numV 2) _)).mono ?_; rintro e w10 ⟨rfl, hb10⟩; have hB10 := up_below' (hB9.alloc hB9.size _) hb10) | (go_at_call 13; (first | refine (sign_of _ (-1) (by decide) _).mono ?_ | refine (sign_of _ 0 (by decide) _).mono ?_ | refine (sign_of _ 1 (by decide) _).mono ?_); rintro e wS ⟨rfl, rfl⟩))
  go_ret
  exact ⟨rfl, hB10⟩

set_option maxRecDepth 100000 in
set_option maxHeartbeats 1000000 in
theorem lawXcr_said_gt (l m : List VV) (A B : Option Addr) (c d : Nat) (w : World) (a1 : l.length ≤ 100) (a2 : m.length ≤ 100) (HZA : Hid (∀ w', Below w.heap.size w w' → Calls Try.prog 15 #[Value.slice A l.length c] w' fun e w'' => e = .returned (.bool true) ∧ Below w'.heap.size w' w'')) (HZB : Hid (∀ w', Below w.heap.size w w' → Calls Try.prog 15 #[Value.slice B m.length d] w' fun e w'' => e = .returned (.bool true) ∧ Below w'.heap.size w' w'')) (HVA : Hid (∀ w', Below w.heap.size w w' → Calls Try.prog 16 #[Value.slice A l.length c] w' fun e w'' => e = .returned (.bool true) ∧ Below w'.heap.size w' w'')) (HVB : Hid (∀ w', Below w.heap.size w w' → Calls Try.prog 16 #[Value.slice B m.length d] w' fun e w'' => e = .returned (.bool true) ∧ Below w'.heap.size w' w'')) (HR : Hid (∀ w', Below w.heap.size w w' → Calls Try.prog 17 #[Value.slice A l.length c, Value.slice B m.length d] w' fun e w'' => e = .returned (.tuple #[.int .i64 1, .bool true]) ∧ Below w'.heap.size w' w'')) (HF : Hid (∀ w', Below w.heap.size w w' → Calls Try.prog 18 #[Value.slice A l.length c, Value.slice B m.length d, .bool false] w' fun e w'' => e = .returned (.int .i64 1) ∧ Below w'.heap.size w' w'')) (HT : Hid (∀ w', Below w.heap.size w w' → Calls Try.prog 18 #[Value.slice A l.length c, Value.slice B m.length d, .bool true] w' fun e w'' => e = .returned (.int .i64 (-1)) ∧ Below w'.heap.size w' w'')) : Calls Try.prog 6 #[Value.slice A l.length c, Value.slice B m.length d] w fun e w' => e = .returned (.bool true) ∧ Below w.heap.size w w' := by
  go_enter Try.func6, Try.ntmps6
  go_wp2_with (first | (go_at_call_of 15 (Value.slice A l.length c); refine (HZA.out _ (Below.refl _ _)).mono ?_; rintro e w1 ⟨rfl, hb1⟩; have hB1 := up_below' (Below.refl _ _) hb1) | (go_at_call 15; refine (HZB.out _ hB1).mono ?_; rintro e w2 ⟨rfl, hb2⟩; have hB2 := up_below' (hB1) hb2) | (go_at_call_of 16 (Value.slice A l.length c); refine (HVA.out _ hB2).mono ?_; rintro e w3 ⟨rfl, hb3⟩; have hB3 := up_below' (hB2) hb3) | (go_at_call 16; refine (HVB.out _ hB3).mono ?_; rintro e w4 ⟨rfl, hb4⟩; have hB4 := up_below' (hB3) hb4) | (go_at_call 17; refine (HR.out _ hB4).mono ?_; rintro e w5 ⟨rfl, hb5⟩; have hB5 := up_below' (hB4) hb5) | (go_at_call 13; (first | refine (sign_of _ (-1) (by decide) _).mono ?_ | refine (sign_of _ 0 (by decide) _).mono ?_ | refine (sign_of _ 1 (by decide) _).mono ?_); rintro e wS ⟨rfl, rfl⟩))
  go_at_call 18
  refine (HF.out _ hB5).mono ?_
  rintro e w6 ⟨rfl, hb6⟩
  have hB6 := up_below' hB5 hb6
  go_wp2_with (first | (go_at_call 13; (first | refine (sign_of _ (-1) (by decide) _).mono ?_ | refine (sign_of _ 0 (by decide) _).mono ?_ | refine (sign_of _ 1 (by decide) _).mono ?_); rintro e wS ⟨rfl, rfl⟩))
  go_at_call 18
  refine (HT.out _ hB6).mono ?_
  rintro e w7 ⟨rfl, hb7⟩
  have hB7 := up_below' hB6 hb7
  go_wp2_with (first | (go_at_call_of 19 (Value.int .i64 1); refine (num_any _ _).mono ?_; rintro e w8 ⟨rfl, hb8⟩; have hB8 := up_below' (hB7) hb8) | (go_at_call 19; refine (num_any _ _).mono ?_; rintro e w9 ⟨rfl, hb9⟩; have hB9 := up_below' (hB8.alloc hB8.size _) hb9) | (go_at_call 18; refine (implRows_12 _ _ _ (((lat_new w8 (numV 1) _).below hb9).below ((Below.refl _ _).alloc (Nat.le_refl _) _)) (lat_new w9 (numV 2) _)).mono ?_; rintro e w10 ⟨rfl, hb10⟩; have hB10 := up_below' (hB9.alloc hB9.size _) hb10) | (go_at_call 13; (first | refine (sign_of _ (-1) (by decide) _).mono ?_ | refine (sign_of _ 0 (by decide) _).mono ?_ | refine (sign_of _ 1 (by decide) _).mono ?_); rintro e wS ⟨rfl, rfl⟩))
  go_ret
  exact ⟨rfl, hB10⟩

end Go.Proofs.Ytiijcmdfbgoafaa
