/-
  The walk of laws.FnCountValues: it returns true. PRINTED BY wip/tpl/gen_lawct.py.
-/
import Derived.Test.YtkfaalfbnhkkaaaDoorOv
import Derived.Test.YtkfaalfbnhkkaaaDoorWo
import Derived.Test.YtkfaalfbnhkkaaaDoorSl2
import Derived.Test.YtkfaalfbnhkkaaaDoorBw
import Derived.Test.YtkfaalfbnhkkaaaDoorHas
import Derived.Deep.RegionHeld3
namespace Go.Proofs.YtkfaalfbnhkkaaaDoor
open Go.RowKit

def nV (n : Int) : VV := ⟨int64S, n, 0, 0, empS⟩
def nulV : VV := ⟨empS, 0, 0, 0, empS⟩

theorem lat_two (w : World) (x y : VV) (t : TypeId) : LAt (w.alloc (.cells #[.string x.k, .int .i64 x.n, .int .u64 x.u, .float .f64 x.f, .string x.s, .string y.k, .int .i64 y.n, .int .u64 y.u, .float .f64 y.f, .string y.s] t)) (some ⟨w.heap.size, 0, none⟩) [x, y] := by
  intro i z hz
  rcases i with _ | _ | i
  · obtain rfl : x = z := by simpa using hz
    exact ⟨_, rfl, by show w.heap.size < _; simp, World.cell?_alloc_mark w _ t (0, 0) 0, World.cell?_alloc_mark w _ t (0, 0) 1, World.cell?_alloc_mark w _ t (0, 0) 2, World.cell?_alloc_mark w _ t (0, 0) 3, World.cell?_alloc_mark w _ t (0, 0) 4⟩
  · obtain rfl : y = z := by simpa using hz
    exact ⟨_, rfl, by show w.heap.size < _; simp, World.cell?_alloc_mark w _ t (0, 0) 5, World.cell?_alloc_mark w _ t (0, 0) 6, World.cell?_alloc_mark w _ t (0, 0) 7, World.cell?_alloc_mark w _ t (0, 0) 8, World.cell?_alloc_mark w _ t (0, 0) 9⟩
  · simp at hz

theorem count_num (l : List VV) (A : Option Addr) (c : Nat) (w : World) (hl : LAt w A l) (hgood : ∀ (j : Nat) (x : VV), l[j]? = some x → x.good) (hm : l.length ≤ 2147483647) :
    Calls Tryd.prog 5 #[.slice A l.length c] w fun e w' => e = .returned (.tuple #[.agg #[.string int64S, .int .i64 (cntL l l.length), .int .u64 0, .float .f64 0, .string empS], .int .i64 0]) ∧ Below w.heap.size w w' :=
  count_any l A c w hl hgood hm

theorem nV_good : ∀ (j : Nat) (x : VV), [nV 1, nulV][j]? = some x → x.good := by
  intro j x hx
  rcases j with _ | _ | j
  · obtain rfl : nV 1 = x := by simpa using hx
    exact ⟨by simp [nV, Rng], by decide +kernel⟩
  · obtain rfl : nulV = x := by simpa using hx
    exact ⟨by simp [nulV, Rng], by decide +kernel⟩
  · simp at hx

theorem count_two (A : Option Addr) (w : World) (hl : LAt w A [nV 1, nulV]) : Calls Tryd.prog 5 #[.slice A 2 2] w fun e w' => e = .returned (.tuple #[.agg #[.string int64S, .int .i64 1, .int .u64 0, .float .f64 0, .string empS], .int .i64 0]) ∧ Below w.heap.size w w' := by
  have h := count_num [nV 1, nulV] A 2 w hl nV_good (by simp)
  rw [show cntL [nV 1, nulV] [nV 1, nulV].length = 1 from by decide +kernel] at h
  exact h

theorem same_n (n : Int) (w : World) : Calls Tryd.prog 9 #[.agg #[.string int64S, .int .i64 n, .int .u64 0, .float .f64 0, .string empS], .agg #[.string int64S, .int .i64 n, .int .u64 0, .float .f64 0, .string empS]] w fun e w' => e = .returned (.bool true) ∧ Below w.heap.size w w' := by
  have h := same_any int64S n 0 0 empS int64S n 0 0 empS w
  rw [show sameB int64S n 0 0 empS int64S n 0 0 empS = true from by simp [sameB]] at h
  exact h

theorem without_n (l : List VV) (A : Option Addr) (c : Nat) (w : World) (hl : LAt w A l) (hm : l.length ≤ 2147483647) :
    Calls Tryd.prog 10 #[.slice A l.length c] w fun e w' => ∃ A' c', e = .returned (.slice A' (cntL l l.length) c') ∧ Below w.heap.size w w' :=
  (without_any l A c w hl hm).mono fun _ _ ⟨A', c', he, _, hb⟩ => ⟨A', c', by rw [← nonN_len]; exact he, hb⟩

set_option maxRecDepth 100000 in
set_option maxHeartbeats 1000000 in
theorem lawCt_long (l : List VV) (A : Option Addr) (p : Nat) (w : World) (HZ : Hid (∀ w', Below w.heap.size w w' → Calls Tryd.prog 4 #[.slice A l.length p] w' fun e w'' => e = .returned (.bool false) ∧ Below w'.heap.size w' w'')) : Calls Tryd.prog 3 #[.slice A l.length p] w fun e w' => e = .returned (.bool true) ∧ Below w.heap.size w w' := by
  go_enter Tryd.func3, Tryd.ntmps3
  go_wp2_with (first | (go_at_call 4; refine (HZ.out _ (Below.refl _ _)).mono ?_; rintro e w1 ⟨rfl, hb1⟩; have hB1 := up_below' (Below.refl _ _) hb1; obtain ⟨hc1, hf1⟩ := bcell hb1; have hy1 : w.heap.size ≤ w1.heap.size := (by have := hb1.size; (try simp at this); omega)))
  go_ret
  exact ⟨rfl, hB1⟩

set_option maxRecDepth 100000 in
set_option maxHeartbeats 1000000 in
theorem lawCt_not (l : List VV) (A : Option Addr) (p : Nat) (w : World) (HZ : Hid (∀ w', Below w.heap.size w w' → Calls Tryd.prog 4 #[.slice A l.length p] w' fun e w'' => e = .returned (.bool true) ∧ Below w'.heap.size w' w'')) (HA : Hid (∀ w', Below w.heap.size w w' → Calls Tryd.prog 8 #[.slice A l.length p, .int .i64 500] w' fun e w'' => e = .returned (.bool false) ∧ Below w'.heap.size w' w'')) : Calls Tryd.prog 3 #[.slice A l.length p] w fun e w' => e = .returned (.bool true) ∧ Below w.heap.size w w' := by
  go_enter Tryd.func3, Tryd.ntmps3
  go_wp2_with (first | (go_at_call 4; refine (HZ.out _ (Below.refl _ _)).mono ?_; rintro e w1 ⟨rfl, hb1⟩; have hB1 := up_below' (Below.refl _ _) hb1; obtain ⟨hc1, hf1⟩ := bcell hb1; have hy1 : w.heap.size ≤ w1.heap.size := (by have := hb1.size; (try simp at this); omega)) | (go_at_call_of 6 (Value.int .i64 1); refine (num_any _ _).mono ?_; rintro e w2 ⟨rfl, hb2⟩; have hB2 := up_below' (hB1) hb2; obtain ⟨hc2, hf2⟩ := bcell hb2; have hy2 : w1.heap.size ≤ w2.heap.size := (by have := hb2.size; (try simp at this); omega)) | (go_at_call 7; refine (null_any _).mono ?_; rintro e w3 ⟨rfl, hb3⟩; have hB3 := up_below' (hB2) hb3; obtain ⟨hc3, hf3⟩ := bcell hb3; have hy3 : w2.heap.size ≤ w3.heap.size := (by have := hb3.size; (try simp at this); omega)) | (go_at_call_of 5 (Value.slice (some ⟨w3.heap.size, 0, none⟩) 2 2); refine (count_two _ _ (lat_two w3 (nV 1) nulV _)).mono ?_; rintro e w4 ⟨rfl, hb4⟩; have hB4 := up_below' (hB3.alloc hB3.size _) hb4; obtain ⟨hc4, hf4⟩ := bcell hb4; have hy4 : w3.heap.size ≤ w4.heap.size := (by have := hb4.size; (try simp at this); omega)) | (go_at_call 8; refine (HA.out _ (by first | exact hB4.alloc hB4.size _)).mono ?_; rintro e w5 ⟨rfl, hb5⟩; have hB5 := up_below' (hB4.alloc hB4.size _) hb5; obtain ⟨hc5, hf5⟩ := bcell hb5; have hy5 : w4.heap.size < w5.heap.size := (by have := hb5.size; (try simp at this); omega)))
  refine wp_region_bw (by kernel_rfl) (by kernel_rfl) ?_
  repeat (go_big_quiet_step ((first | (go_at_call 6; exact bw_of (num_any _ _)) | (go_at_call 9; exact bw_of (same_n _ _)))))
  refine wpQuiet_nil ?_
  intro _ hw'
  obtain ⟨pq, hw''⟩ := hw'
  subst hw''
  go_wp2
  go_ret
  exact ⟨rfl, up_below' hB5 pq.h⟩

set_option maxRecDepth 100000 in
set_option maxHeartbeats 1000000 in
theorem lawCt_yes (l : List VV) (A : Option Addr) (p N : Nat) (w : World) (HZ : Hid (∀ w', Below w.heap.size w w' → Calls Tryd.prog 4 #[.slice A l.length p] w' fun e w'' => e = .returned (.bool true) ∧ Below w'.heap.size w' w'')) (HA : Hid (∀ w', Below w.heap.size w w' → Calls Tryd.prog 8 #[.slice A l.length p, .int .i64 500] w' fun e w'' => e = .returned (.bool true) ∧ Below w'.heap.size w' w'')) (HC : Hid (∀ w', Below w.heap.size w w' → Calls Tryd.prog 5 #[.slice A l.length p] w' fun e w'' => e = .returned (.tuple #[.agg #[.string int64S, .int .i64 (N : Int), .int .u64 0, .float .f64 0, .string empS], .int .i64 0]) ∧ Below w'.heap.size w' w'')) (HW : Hid (∀ w', Below w.heap.size w w' → Calls Tryd.prog 10 #[.slice A l.length p] w' fun e w'' => ∃ A' c', e = .returned (.slice A' N c') ∧ Below w'.heap.size w' w'')) : Calls Tryd.prog 3 #[.slice A l.length p] w fun e w' => e = .returned (.bool true) ∧ Below w.heap.size w w' := by
  go_enter Tryd.func3, Tryd.ntmps3
  go_wp2_with (first | (go_at_call 4; refine (HZ.out _ (Below.refl _ _)).mono ?_; rintro e w1 ⟨rfl, hb1⟩; have hB1 := up_below' (Below.refl _ _) hb1; obtain ⟨hc1, hf1⟩ := bcell hb1; have hy1 : w.heap.size ≤ w1.heap.size := (by have := hb1.size; (try simp at this); omega)) | (go_at_call_of 6 (Value.int .i64 1); refine (num_any _ _).mono ?_; rintro e w2 ⟨rfl, hb2⟩; have hB2 := up_below' (hB1) hb2; obtain ⟨hc2, hf2⟩ := bcell hb2; have hy2 : w1.heap.size ≤ w2.heap.size := (by have := hb2.size; (try simp at this); omega)) | (go_at_call 7; refine (null_any _).mono ?_; rintro e w3 ⟨rfl, hb3⟩; have hB3 := up_below' (hB2) hb3; obtain ⟨hc3, hf3⟩ := bcell hb3; have hy3 : w2.heap.size ≤ w3.heap.size := (by have := hb3.size; (try simp at this); omega)) | (go_at_call_of 5 (Value.slice (some ⟨w3.heap.size, 0, none⟩) 2 2); refine (count_two _ _ (lat_two w3 (nV 1) nulV _)).mono ?_; rintro e w4 ⟨rfl, hb4⟩; have hB4 := up_below' (hB3.alloc hB3.size _) hb4; obtain ⟨hc4, hf4⟩ := bcell hb4; have hy4 : w3.heap.size ≤ w4.heap.size := (by have := hb4.size; (try simp at this); omega)) | (go_at_call 8; refine (HA.out _ (by first | exact hB4.alloc hB4.size _)).mono ?_; rintro e w5 ⟨rfl, hb5⟩; have hB5 := up_below' (hB4.alloc hB4.size _) hb5; obtain ⟨hc5, hf5⟩ := bcell hb5; have hy5 : w4.heap.size < w5.heap.size := (by have := hb5.size; (try simp at this); omega)) | (go_at_call_of 5 (Value.slice A l.length p); refine (HC.out _ hB5).mono ?_; rintro e w6 ⟨rfl, hb6⟩; have hB6 := up_below' (hB5) hb6; obtain ⟨hc6, hf6⟩ := bcell hb6; have hy6 : w5.heap.size ≤ w6.heap.size := (by have := hb6.size; (try simp at this); omega)))
  have HB7 := Lib.hid (hB6.alloc hB6.size (.cells #[Value.string int64S, Value.int .i64 (N : Int), Value.int .u64 0, Value.float .f64 0, Value.string empS] 27))
  have x0 : (w6.alloc (.cells #[Value.string int64S, Value.int .i64 (N : Int), Value.int .u64 0, Value.float .f64 0, Value.string empS] 27)).cell? ⟨w6.heap.size, 0, none⟩ = some (Value.string int64S) := World.cell?_alloc_mark w6 _ _ (0, 0) 0
  have x1 : (w6.alloc (.cells #[Value.string int64S, Value.int .i64 (N : Int), Value.int .u64 0, Value.float .f64 0, Value.string empS] 27)).cell? ⟨w6.heap.size, 1, none⟩ = some (Value.int .i64 (N : Int)) := World.cell?_alloc_mark w6 _ _ (0, 0) 1
  have x2 : (w6.alloc (.cells #[Value.string int64S, Value.int .i64 (N : Int), Value.int .u64 0, Value.float .f64 0, Value.string empS] 27)).cell? ⟨w6.heap.size, 2, none⟩ = some (Value.int .u64 0) := World.cell?_alloc_mark w6 _ _ (0, 0) 2
  have x3 : (w6.alloc (.cells #[Value.string int64S, Value.int .i64 (N : Int), Value.int .u64 0, Value.float .f64 0, Value.string empS] 27)).cell? ⟨w6.heap.size, 3, none⟩ = some (Value.float .f64 0) := World.cell?_alloc_mark w6 _ _ (0, 0) 3
  have x4 : (w6.alloc (.cells #[Value.string int64S, Value.int .i64 (N : Int), Value.int .u64 0, Value.float .f64 0, Value.string empS] 27)).cell? ⟨w6.heap.size, 4, none⟩ = some (Value.string empS) := World.cell?_alloc_mark w6 _ _ (0, 0) 4
  have x5 : (w6.alloc (.cells #[Value.string int64S, Value.int .i64 (N : Int), Value.int .u64 0, Value.float .f64 0, Value.string empS] 27)).cell? ⟨w4.heap.size, 0, none⟩ = some (Value.string int64S) := ((World.cell?_alloc_past _ _ _ (by omega)).trans (hc6 _ _ (by omega))).trans ((hc5 _ _ (by simp)).trans (World.cell?_alloc_mark w4 _ _ (0, 0) 0))
  have x6 : (w6.alloc (.cells #[Value.string int64S, Value.int .i64 (N : Int), Value.int .u64 0, Value.float .f64 0, Value.string empS] 27)).cell? ⟨w4.heap.size, 1, none⟩ = some (Value.int .i64 1) := ((World.cell?_alloc_past _ _ _ (by omega)).trans (hc6 _ _ (by omega))).trans ((hc5 _ _ (by simp)).trans (World.cell?_alloc_mark w4 _ _ (0, 0) 1))
  have x7 : (w6.alloc (.cells #[Value.string int64S, Value.int .i64 (N : Int), Value.int .u64 0, Value.float .f64 0, Value.string empS] 27)).cell? ⟨w4.heap.size, 2, none⟩ = some (Value.int .u64 0) := ((World.cell?_alloc_past _ _ _ (by omega)).trans (hc6 _ _ (by omega))).trans ((hc5 _ _ (by simp)).trans (World.cell?_alloc_mark w4 _ _ (0, 0) 2))
  have x8 : (w6.alloc (.cells #[Value.string int64S, Value.int .i64 (N : Int), Value.int .u64 0, Value.float .f64 0, Value.string empS] 27)).cell? ⟨w4.heap.size, 3, none⟩ = some (Value.float .f64 0) := ((World.cell?_alloc_past _ _ _ (by omega)).trans (hc6 _ _ (by omega))).trans ((hc5 _ _ (by simp)).trans (World.cell?_alloc_mark w4 _ _ (0, 0) 3))
  have x9 : (w6.alloc (.cells #[Value.string int64S, Value.int .i64 (N : Int), Value.int .u64 0, Value.float .f64 0, Value.string empS] 27)).cell? ⟨w4.heap.size, 4, none⟩ = some (Value.string empS) := ((World.cell?_alloc_past _ _ _ (by omega)).trans (hc6 _ _ (by omega))).trans ((hc5 _ _ (by simp)).trans (World.cell?_alloc_mark w4 _ _ (0, 0) 4))
  have hs7 : w6.heap.size < (w6.alloc (.cells #[Value.string int64S, Value.int .i64 (N : Int), Value.int .u64 0, Value.float .f64 0, Value.string empS] 27)).heap.size := by simp
  have hs8 : w4.heap.size < (w6.alloc (.cells #[Value.string int64S, Value.int .i64 (N : Int), Value.int .u64 0, Value.float .f64 0, Value.string empS] 27)).heap.size := by omega
  obtain ⟨W, hW⟩ : ∃ W', W' = (w6.alloc (.cells #[Value.string int64S, Value.int .i64 (N : Int), Value.int .u64 0, Value.float .f64 0, Value.string empS] 27)) := ⟨_, rfl⟩
  rw [← hW] at x0 x1 x2 x3 x4 x5 x6 x7 x8 x9 hs7 hs8 HB7 ⊢
  clear hW
  go_region_held3 (fun w' => w'.cell? ⟨w6.heap.size, 0, none⟩ = some (Value.string int64S) ∧ w'.cell? ⟨w6.heap.size, 1, none⟩ = some (Value.int .i64 (N : Int)) ∧ w'.cell? ⟨w6.heap.size, 2, none⟩ = some (Value.int .u64 0) ∧ w'.cell? ⟨w6.heap.size, 3, none⟩ = some (Value.float .f64 0) ∧ w'.cell? ⟨w6.heap.size, 4, none⟩ = some (Value.string empS) ∧ w'.cell? ⟨w4.heap.size, 0, none⟩ = some (Value.string int64S) ∧ w'.cell? ⟨w4.heap.size, 1, none⟩ = some (Value.int .i64 1) ∧ w'.cell? ⟨w4.heap.size, 2, none⟩ = some (Value.int .u64 0) ∧ w'.cell? ⟨w4.heap.size, 3, none⟩ = some (Value.float .f64 0) ∧ w'.cell? ⟨w4.heap.size, 4, none⟩ = some (Value.string empS)) (first | go_keep | exact ⟨x0, x1, x2, x3, x4, x5, x6, x7, x8, x9⟩ | exact ⟨y0, y1, y2, y3, y4, y5, y6, y7, y8, y9⟩ | exact ⟨z0, z1, z2, z3, z4, z5, z6, z7, z8, z9⟩ | exact ⟨u0, u1, u2, u3, u4, u5, u6, u7, u8, u9⟩ | exact ⟨v0, v1, v2, v3, v4, v5, v6, v7, v8, v9⟩ | exact ⟨t0, t1, t2, t3, t4, t5, t6, t7, t8, t9⟩) (first | (go_at_call 10; refine (HW.out _ HB7.out.drew).mono ?_; rintro e wv0 ⟨A', c', rfl, g0⟩; obtain ⟨hcx0, hfx0⟩ := (by first | exact bcellD g0 | exact bcell g0); have hl0 : _ ≤ wv0.heap.size := g0.size; (try simp at hl0); have y0 := (hcx0 _ _ (by omega)).trans x0; have y1 := (hcx0 _ _ (by omega)).trans x1; have y2 := (hcx0 _ _ (by omega)).trans x2; have y3 := (hcx0 _ _ (by omega)).trans x3; have y4 := (hcx0 _ _ (by omega)).trans x4; have y5 := (hcx0 _ _ (by omega)).trans x5; have y6 := (hcx0 _ _ (by omega)).trans x6; have y7 := (hcx0 _ _ (by omega)).trans x7; have y8 := (hcx0 _ _ (by omega)).trans x8; have y9 := (hcx0 _ _ (by omega)).trans x9; have HV0 := Lib.hid (up_below (HB7.out.drew) (Nat.le_refl _) g0)) | (go_at_call_of 6 (Value.int .i64 N); refine (num_any _ _).mono ?_; rintro e wv1 ⟨rfl, g1⟩; obtain ⟨hcx1, hfx1⟩ := (by first | exact bcellD g1 | exact bcell g1); have hl1 : _ ≤ wv1.heap.size := g1.size; (try simp at hl1); have z0 := (hcx1 _ _ (by omega)).trans y0; have z1 := (hcx1 _ _ (by omega)).trans y1; have z2 := (hcx1 _ _ (by omega)).trans y2; have z3 := (hcx1 _ _ (by omega)).trans y3; have z4 := (hcx1 _ _ (by omega)).trans y4; have z5 := (hcx1 _ _ (by omega)).trans y5; have z6 := (hcx1 _ _ (by omega)).trans y6; have z7 := (hcx1 _ _ (by omega)).trans y7; have z8 := (hcx1 _ _ (by omega)).trans y8; have z9 := (hcx1 _ _ (by omega)).trans y9; have HV1 := Lib.hid (up_below (HV0.out) (Nat.le_refl _) g1)) | (go_at_call_of 9 (Value.agg #[Value.string int64S, Value.int .i64 (N : Int), Value.int .u64 0, Value.float .f64 0, Value.string empS]); refine (same_n _ _).mono ?_; rintro e wv2 ⟨rfl, g2⟩; obtain ⟨hcx2, hfx2⟩ := (by first | exact bcellD g2 | exact bcell g2); have hl2 : _ ≤ wv2.heap.size := g2.size; (try simp at hl2); have u0 := (hcx2 _ _ (by omega)).trans z0; have u1 := (hcx2 _ _ (by omega)).trans z1; have u2 := (hcx2 _ _ (by omega)).trans z2; have u3 := (hcx2 _ _ (by omega)).trans z3; have u4 := (hcx2 _ _ (by omega)).trans z4; have u5 := (hcx2 _ _ (by omega)).trans z5; have u6 := (hcx2 _ _ (by omega)).trans z6; have u7 := (hcx2 _ _ (by omega)).trans z7; have u8 := (hcx2 _ _ (by omega)).trans z8; have u9 := (hcx2 _ _ (by omega)).trans z9; have HV2 := Lib.hid (up_below (HV1.out) (Nat.le_refl _) g2)) | (go_at_call_of 6 (Value.int .i64 1); refine (num_any _ _).mono ?_; rintro e wv3 ⟨rfl, g3⟩; obtain ⟨hcx3, hfx3⟩ := (by first | exact bcellD g3 | exact bcell g3); have hl3 : _ ≤ wv3.heap.size := g3.size; (try simp at hl3); have v0 := (hcx3 _ _ (by omega)).trans u0; have v1 := (hcx3 _ _ (by omega)).trans u1; have v2 := (hcx3 _ _ (by omega)).trans u2; have v3 := (hcx3 _ _ (by omega)).trans u3; have v4 := (hcx3 _ _ (by omega)).trans u4; have v5 := (hcx3 _ _ (by omega)).trans u5; have v6 := (hcx3 _ _ (by omega)).trans u6; have v7 := (hcx3 _ _ (by omega)).trans u7; have v8 := (hcx3 _ _ (by omega)).trans u8; have v9 := (hcx3 _ _ (by omega)).trans u9; have HV3 := Lib.hid (up_below (HV2.out) (Nat.le_refl _) g3)) | (go_at_call 9; refine (same_n _ _).mono ?_; rintro e wv4 ⟨rfl, g4⟩; obtain ⟨hcx4, hfx4⟩ := (by first | exact bcellD g4 | exact bcell g4); have hl4 : _ ≤ wv4.heap.size := g4.size; (try simp at hl4); have t0 := (hcx4 _ _ (by omega)).trans v0; have t1 := (hcx4 _ _ (by omega)).trans v1; have t2 := (hcx4 _ _ (by omega)).trans v2; have t3 := (hcx4 _ _ (by omega)).trans v3; have t4 := (hcx4 _ _ (by omega)).trans v4; have t5 := (hcx4 _ _ (by omega)).trans v5; have t6 := (hcx4 _ _ (by omega)).trans v6; have t7 := (hcx4 _ _ (by omega)).trans v7; have t8 := (hcx4 _ _ (by omega)).trans v8; have t9 := (hcx4 _ _ (by omega)).trans v9; have HV4 := Lib.hid (up_below (HV3.out) (Nat.le_refl _) g4)))
  go_wp2
  go_ret
  exact ⟨rfl, HV4.out⟩

theorem lawCt_any (l : List VV) (A : Option Addr) (p : Nat) {w : World} (hl : LAt w A l) (hr : ∀ (j : Nat) (x : VV), l[j]? = some x → Rng x.n x.u x.f) (hm : l.length ≤ maxLen) (a : Addr) (_ : Has w a) :
    Calls Tryd.prog 3 #[.slice A l.length p] w fun e w' => e = .returned (.bool true) ∧ Below w.heap.size w w' := by
  have hz := fun w' (hb : Below w.heap.size w w') => zzFits2_any l A p w' (hl.below hb)
  have ha := fun w' (hb : Below w.heap.size w w') => allConcrete_any l A p 500 w' (hl.below hb) (by unfold maxLen at hm; omega)
  cases hf : fits2B l with
  | false =>
    rw [hf] at hz
    exact lawCt_long l A p w hz
  | true =>
    rw [hf] at hz
    cases hc : concL l 500 with
    | false =>
      rw [hc] at ha
      exact lawCt_not l A p w hz ha
    | true =>
      rw [hc] at ha
      have hc2 := hc
      unfold concL at hc2
      rw [Bool.and_eq_true, decide_eq_true_eq, List.all_eq_true] at hc2
      have hn : l.length ≤ 2147483647 := by have := hc2.1; omega
      have hg : ∀ (j : Nat) (x : VV), l[j]? = some x → x.good := fun j x hx => ⟨hr j x hx, conc_valid (hc2.2 x (List.mem_of_getElem? hx))⟩
      exact lawCt_yes l A p (cntL l l.length) w hz ha (fun w' hb => count_num l A p w' (hl.below hb) hg hn) (fun w' hb => without_n l A p w' (hl.below hb) hn)

end Go.Proofs.YtkfaalfbnhkkaaaDoor
