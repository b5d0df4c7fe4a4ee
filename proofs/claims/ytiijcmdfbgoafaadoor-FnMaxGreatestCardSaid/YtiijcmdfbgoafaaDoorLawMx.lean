/-
  The walk of laws.FnMaxGreatest: it returns true. PRINTED BY wip/tpl/gen_lawmx.py.
-/
import Derived.Test.YtiijcmdfbgoafaaDoorEx
import Derived.Test.YtiijcmdfbgoafaaDoorAl
import Derived.Test.YtiijcmdfbgoafaaDoorHas
namespace Go.Proofs.YtiijcmdfbgoafaaDoor
open Go.RowKit

def nV (n : Int) : VV := ⟨int64S, n, 0, 0, empS⟩

theorem lat_three (w : World) (x y z : VV) (t : TypeId) : LAt (w.alloc (.cells #[.string x.k, .int .i64 x.n, .int .u64 x.u, .float .f64 x.f, .string x.s, .string y.k, .int .i64 y.n, .int .u64 y.u, .float .f64 y.f, .string y.s, .string z.k, .int .i64 z.n, .int .u64 z.u, .float .f64 z.f, .string z.s] t)) (some ⟨w.heap.size, 0, none⟩) [x, y, z] := by
  intro i u hu
  rcases i with _ | _ | _ | i
  · obtain rfl : x = u := by simpa using hu
    exact ⟨_, rfl, by show w.heap.size < _; simp, World.cell?_alloc_mark w _ t (0, 0) 0, World.cell?_alloc_mark w _ t (0, 0) 1, World.cell?_alloc_mark w _ t (0, 0) 2, World.cell?_alloc_mark w _ t (0, 0) 3, World.cell?_alloc_mark w _ t (0, 0) 4⟩
  · obtain rfl : y = u := by simpa using hu
    exact ⟨_, rfl, by show w.heap.size < _; simp, World.cell?_alloc_mark w _ t (0, 0) 5, World.cell?_alloc_mark w _ t (0, 0) 6, World.cell?_alloc_mark w _ t (0, 0) 7, World.cell?_alloc_mark w _ t (0, 0) 8, World.cell?_alloc_mark w _ t (0, 0) 9⟩
  · obtain rfl : z = u := by simpa using hu
    exact ⟨_, rfl, by show w.heap.size < _; simp, World.cell?_alloc_mark w _ t (0, 0) 10, World.cell?_alloc_mark w _ t (0, 0) 11, World.cell?_alloc_mark w _ t (0, 0) 12, World.cell?_alloc_mark w _ t (0, 0) 13, World.cell?_alloc_mark w _ t (0, 0) 14⟩
  · simp at hu

theorem nV_sv (n : Int) : (nV n).sv = .int .i64 n := by
  show toSV (Kd.of int64S.toList) n 0 0 empS = _
  rw [show Kd.of int64S.toList = .int .i64 from by decide +kernel]
  rfl
theorem nulV_sv : nulV.sv = .null := by
  show toSV (Kd.of (⟨#[]⟩ : ByteArray).toList) 0 0 0 ⟨#[]⟩ = _
  rw [show Kd.of (⟨#[]⟩ : ByteArray).toList = .null from by decide +kernel]
  rfl

theorem three_agg : AggL [nV 1, nulV, nV 2] := by
  intro j x hx
  rcases j with _ | _ | _ | j
  · obtain rfl : nV 1 = x := by simpa using hx
    exact ⟨by decide +kernel, by simp [nV, Rng], .inr (by rw [nV_sv]; rfl)⟩
  · obtain rfl : nulV = x := by simpa using hx
    exact ⟨by decide +kernel, by simp [nulV, Rng], .inl nulV_sv⟩
  · obtain rfl : nV 2 = x := by simpa using hx
    exact ⟨by decide +kernel, by simp [nV, Rng], .inr (by rw [nV_sv]; rfl)⟩
  · simp at hx

theorem max_three (A : Option Addr) (w : World) (hl : LAt w A [nV 1, nulV, nV 2]) : Calls Tryd.prog 23 #[.slice A 3 3] w fun e w' => e = .returned (.tuple #[.agg #[.string int64S, .int .i64 2, .int .u64 0, .float .f64 0, .string empS], .int .i64 0]) ∧ Below w.heap.size w w' := by
  refine (implMax_any [nV 1, nulV, nV 2] A 3 w hl three_agg (by simp)).mono ?_
  rintro e w' ⟨g, hg, rfl, hb⟩
  have hv : bestV [nV 1, nulV, nV 2] = .int .i64 2 := by
    show (stepB (stepB (stepB none (nV 1).sv) nulV.sv) (nV 2).sv).getD .null = _
    rw [nV_sv, nulV_sv, nV_sv]
    rfl
  rw [hv] at hg ⊢
  have hg0 : g = 0 := hg
  subst hg0
  exact ⟨rfl, hb⟩

theorem same_n (n : Int) (w : World) : Calls Tryd.prog 19 #[.agg #[.string int64S, .int .i64 n, .int .u64 0, .float .f64 0, .string empS], .agg #[.string int64S, .int .i64 n, .int .u64 0, .float .f64 0, .string empS]] w fun e w' => e = .returned (.bool true) ∧ Below w.heap.size w w' := by
  have h := same_any int64S n 0 0 empS int64S n 0 0 empS w
  rw [show sameB int64S n 0 0 empS int64S n 0 0 empS = true from by simp [sameB]] at h
  exact h

theorem alike_of {l : List VV} {most : Int} (hr : ∀ (j : Nat) (x : VV), l[j]? = some x → Rng x.n x.u x.f) (hc : concL l most = true) (h1 : OneK (nonN l)) : Alike l := by
  unfold concL at hc
  rw [Bool.and_eq_true, List.all_eq_true] at hc
  obtain ⟨y, hy⟩ := h1
  refine ⟨fun j x hx => ?_, fun x hx z hz => ?_⟩
  · have hxc := hc.2 x (List.mem_of_getElem? hx)
    refine ⟨hxc, hr j x hx, ?_⟩
    cases hn : x.isNull with
    | true => exact .inl ((sv_null hxc).2 hn)
    | false =>
      right
      obtain ⟨i, hi, hxi⟩ := List.getElem_of_mem (mem_nonN.2 ⟨List.mem_of_getElem? hx, hn⟩)
      obtain ⟨_, k2, k3⟩ := hy i x (by rw [List.getElem?_eq_getElem hi, hxi])
      have hv := conc_valid hxc
      have hno : Kd.of x.k.toList ≠ .null := fun h => by
        have := (sv_null hxc).1 (by unfold VV.sv; rw [h]; rfl)
        rw [hn] at this
        cases this
      have hnb : Kd.of x.k.toList ≠ .bool := fun h => by
        have := Kd.of_lit _ h (by simp)
        rw [this] at k2
        exact absurd k2 (by decide)
      have hnl : Kd.of x.k.toList ≠ .blob := fun h => by
        have := Kd.of_lit _ h (by simp)
        rw [this] at k3
        exact absurd k3 (by decide)
      unfold VV.conc concB at hxc
      simp only [Bool.and_eq_true, Bool.not_eq_true'] at hxc
      have hid := hxc.1.2
      unfold VV.sv
      revert hno hnb hnl hv hid
      cases Kd.of x.k.toList <;> simp [toSV, SV.agg, validB, Kd.ideal]
  · obtain ⟨i, hi, hxi⟩ := List.getElem_of_mem hx
    obtain ⟨j, hj, hzj⟩ := List.getElem_of_mem hz
    rw [(hy i x (by rw [List.getElem?_eq_getElem hi, hxi])).1, (hy j z (by rw [List.getElem?_eq_getElem hj, hzj])).1]

theorem nonN_le (l : List VV) : (nonN l).length ≤ l.length := List.length_filter_le _ _

/-- extreme of a list that alike lets through. -/
theorem extreme_ok (l : List VV) (A : Option Addr) (p : Nat) (hl : Alike l) (hm : l.length ≤ 2147483647) (w : World) (ha : LAt w A l) :
    Calls Tryd.prog 26 #[.slice A l.length p, .func (.func 23) #[] #[], .int .i64 1] w fun e w' => e = .returned (.bool true) ∧ Below w.heap.size w w' :=
  extreme_any l (nonN l) A p (Nat.le_trans (nonN_le l) hm) w (fun w' hb => without_any l A p w' (ha.below hb) hm)
    (fun w' hb => (implMax_any l A p w' (ha.below hb) hl.1 hm).mono fun _ _ ⟨g, hg, he, hb⟩ => ⟨outV (bestV l) g, top_of hl hg, he, hb⟩)

set_option maxRecDepth 100000 in
set_option maxHeartbeats 1000000 in
theorem lawMx_long (l : List VV) (A : Option Addr) (p : Nat) (w : World) (HZ : Hid (∀ w', Below w.heap.size w w' → Calls Tryd.prog 22 #[.slice A l.length p] w' fun e w'' => e = .returned (.bool false) ∧ Below w'.heap.size w' w'')) : Calls Tryd.prog 7 #[.slice A l.length p] w fun e w' => e = .returned (.bool true) ∧ Below w.heap.size w w' := by
  go_enter Tryd.func7, Tryd.ntmps7
  go_wp2_with (first | (go_at_call 22; refine (HZ.out _ (Below.refl _ _)).mono ?_; rintro e w1 ⟨rfl, hb1⟩; have hB1 := up_below' (Below.refl _ _) hb1; obtain ⟨hc1, hf1⟩ := bcell hb1; have hy1 : w.heap.size ≤ w1.heap.size := (by have := hb1.size; (try simp at this); omega)))
  go_ret
  exact ⟨rfl, hB1⟩

set_option maxRecDepth 100000 in
set_option maxHeartbeats 1000000 in
theorem lawMx_fits (l : List VV) (A : Option Addr) (p : Nat) (w : World) (HZ : Hid (∀ w', Below w.heap.size w w' → Calls Tryd.prog 22 #[.slice A l.length p] w' fun e w'' => e = .returned (.bool true) ∧ Below w'.heap.size w' w'')) (HA : Hid (∀ w', Below w.heap.size w w' → Calls Tryd.prog 25 #[.slice A l.length p, .int .i64 200] w' fun e w'' => ∃ b, (b = true → Alike l) ∧ e = .returned (.bool b) ∧ Below w'.heap.size w' w'')) (HE : Hid (∀ w', Alike l → Below w.heap.size w w' → Calls Tryd.prog 26 #[.slice A l.length p, .func (.func 23) #[] #[], .int .i64 1] w' fun e w'' => e = .returned (.bool true) ∧ Below w'.heap.size w' w'')) : Calls Tryd.prog 7 #[.slice A l.length p] w fun e w' => e = .returned (.bool true) ∧ Below w.heap.size w w' := by
  go_enter Tryd.func7, Tryd.ntmps7
  go_wp2_with (first | (go_at_call 22; refine (HZ.out _ (Below.refl _ _)).mono ?_; rintro e w1 ⟨rfl, hb1⟩; have hB1 := up_below' (Below.refl _ _) hb1; obtain ⟨hc1, hf1⟩ := bcell hb1; have hy1 : w.heap.size ≤ w1.heap.size := (by have := hb1.size; (try simp at this); omega)) | (go_at_call_of 24 (Value.int .i64 1); refine (num_any _ _).mono ?_; rintro e w2 ⟨rfl, hb2⟩; have hB2 := up_below' (hB1) hb2; obtain ⟨hc2, hf2⟩ := bcell hb2; have hy2 : w1.heap.size ≤ w2.heap.size := (by have := hb2.size; (try simp at this); omega)) | (go_at_call 21; refine (null_any _).mono ?_; rintro e w3 ⟨rfl, hb3⟩; have hB3 := up_below' (hB2) hb3; obtain ⟨hc3, hf3⟩ := bcell hb3; have hy3 : w2.heap.size ≤ w3.heap.size := (by have := hb3.size; (try simp at this); omega)) | (go_at_call_of 24 (Value.int .i64 2); refine (num_any _ _).mono ?_; rintro e w4 ⟨rfl, hb4⟩; have hB4 := up_below' (hB3) hb4; obtain ⟨hc4, hf4⟩ := bcell hb4; have hy4 : w3.heap.size ≤ w4.heap.size := (by have := hb4.size; (try simp at this); omega)) | (go_at_call 23; refine (max_three _ _ (lat_three w4 (nV 1) nulV (nV 2) _)).mono ?_; rintro e w5 ⟨rfl, hb5⟩; have hB5 := up_below' (hB4.alloc hB4.size _) hb5; obtain ⟨hc5, hf5⟩ := bcell hb5; have hy5 : w4.heap.size ≤ w5.heap.size := (by have := hb5.size; (try simp at this); omega)) | (go_at_call 25; refine (HA.out _ (hB5.alloc hB5.size _)).mono ?_; rintro e w6 ⟨b, hbt, rfl, hb6⟩; have hB6 := up_below' (hB5.alloc hB5.size _) hb6; obtain ⟨hc6, hf6⟩ := bcell hb6; have hy6 : w5.heap.size < w6.heap.size := (by have := hb6.size; (try simp at this); omega); have HAL := Lib.hid hbt; clear hbt; cases b))
  all_goals
      refine wp_region_bw (by kernel_rfl) (by kernel_rfl) ?_
      repeat (go_big_quiet_step ((first | (go_at_call 24; exact bw_of (num_any _ _)) | (go_at_call 19; exact bw_of (same_n _ _)) | (go_at_call 26; exact bw_of (HE.out _ (HAL.out (by first | trivial | rfl)) (up_below' hB6 (BW.h _)))))))
      refine wpQuiet_nil ?_
      intro _ hw'
      obtain ⟨pq, hw''⟩ := hw'
      subst hw''
      go_wp2
      go_ret
      exact ⟨rfl, up_below' hB6 pq.h⟩

theorem lawMx_any (l : List VV) (A : Option Addr) (p : Nat) {w : World} (hl : LAt w A l) (hr : ∀ (j : Nat) (x : VV), l[j]? = some x → Rng x.n x.u x.f) (hm : l.length ≤ maxLen) (a : Addr) (_ : Has w a) :
    Calls Tryd.prog 7 #[.slice A l.length p] w fun e w' => e = .returned (.bool true) ∧ Below w.heap.size w w' := by
  have hz := fun w' (hb : Below w.heap.size w w') => zzFits2_any l A p w' (hl.below hb)
  have ha := fun w' (hb : Below w.heap.size w w') => allConcrete_any l A p 200 w' (hl.below hb) (by unfold maxLen at hm; omega)
  cases hf : fits2B l with
  | false =>
    rw [hf] at hz
    exact lawMx_long l A p w hz
  | true =>
    rw [hf] at hz
    have hn : l.length ≤ 2147483647 := by
      unfold fits2B at hf
      rw [Bool.and_eq_true, decide_eq_true_eq] at hf
      exact hf.1
    refine lawMx_fits l A p w hz (fun w' hb => ?_) (fun w' h hb => extreme_ok l A p h hn w' (hl.below hb))
    have ha' := fun w'' (hb' : Below w'.heap.size w' w'') => ha w'' (hb.trans (hb'.mono hb.size))
    cases hc : concL l 200 with
    | false =>
      rw [hc] at ha'
      exact (alike_no l A p 200 w' ha').mono fun _ _ ⟨b, h, he, hb⟩ => ⟨b, fun h' => alike_of hr (h h').1 (h h').2, he, hb⟩
    | true =>
      rw [hc] at ha'
      exact (alike_yes l A p 200 (Nat.le_trans (nonN_le l) hn) hc w' ha' (fun w'' hb' => without_any l A p w'' ((hl.below hb).below hb') hn)).mono fun _ _ ⟨b, h, he, hb⟩ => ⟨b, fun h' => alike_of hr (h h').1 (h h').2, he, hb⟩

end Go.Proofs.YtiijcmdfbgoafaaDoor
