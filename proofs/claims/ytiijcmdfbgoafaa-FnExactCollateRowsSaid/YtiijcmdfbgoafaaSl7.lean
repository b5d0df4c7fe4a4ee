/-
  laws.zzFits16; impl.KeyCompare of two keys of one number; a list of one value in new memory.
-/
import Derived.Test.YtiijcmdfbgoafaaSl6
namespace Go.Proofs.Ytiijcmdfbgoafaa
open Go.RowKit

theorem lat_new (w : World) (x : VV) (t : TypeId) : LAt (w.alloc (.cells #[.string x.k, .int .i64 x.n, .int .u64 x.u, .float .f64 x.f, .string x.s] t)) (some ⟨w.heap.size, 0, none⟩) [x] := by
  intro i y hy
  cases i with
  | zero =>
    obtain rfl : x = y := by simpa using hy
    exact ⟨_, rfl, by show w.heap.size < _; simp, World.cell?_alloc_mark w _ t (0, 0) 0, World.cell?_alloc_mark w _ t (0, 0) 1, World.cell?_alloc_mark w _ t (0, 0) 2, World.cell?_alloc_mark w _ t (0, 0) 3, World.cell?_alloc_mark w _ t (0, 0) 4⟩
  | succ i => simp at hy

def numV (n : Int) : VV := ⟨int64S, n, 0, 0, empS⟩
theorem numV_conc : ConcL [numV 1] ∧ ConcL [numV 2] ∧ collV [numV 1] [numV 2] = -1 := by
  refine ⟨fun j x hx => ?_, fun j x hx => ?_, by decide +kernel⟩
  all_goals
    cases j with
    | zero =>
      obtain rfl := (Option.some.inj hx)
      exact ⟨by decide +kernel, by simp [numV, Rng]⟩
    | succ j => simp at hx

theorem implKey_12 (A B : Option Addr) (w : World) (hA : LAt w A [numV 1]) (hB : LAt w B [numV 2]) :
    Calls Try.prog 21 #[.agg #[.slice A 1 1, .int .i64 5], .agg #[.slice B 1 1, .int .i64 3]] w (ColP (-1) w) := by
  have h := implKey_any [numV 1] [numV 2] A B 1 1 5 3 rfl (by decide) numV_conc.1 numV_conc.2.1 (by omega) (by omega) (by omega) (by omega) w hA hB
  rw [numV_conc.2.2] at h
  exact h

set_option maxHeartbeats 400000 in
theorem zzFits16_any (l : List VV) (A : Option Addr) (c : Nat) (h : Int) (w : World) (hl : LAt w A l) :
    Calls Try.prog 20 #[.agg #[.slice A l.length c, .int .i64 h]] w fun e w' => e = .returned (.bool (fits2B l)) ∧ Below w.heap.size w w' := by
  cases hf : fits2B l with
  | false =>
    have HZ := Lib.hid (fun w' (hb : Below w.heap.size w w') => show Calls Try.prog 15 #[.slice A l.length c] w' fun e w'' => e = .returned (.bool false) ∧ Below w'.heap.size w' w'' by rw [← hf]; exact zzFits2_any l A c w' (hl.below hb))
    clear hl hf
    go_enter Try.func20, Try.ntmps20
    go_wp2_with (go_at_call 15; refine (HZ.out _ ((Below.refl _ _).alloc (Nat.le_refl _) _)).mono ?_; rintro e w1 ⟨rfl, hb1⟩)
    go_ret
    exact ⟨rfl, up_below' ((Below.refl _ _).alloc (Nat.le_refl _) _) hb1⟩
  | true =>
    have HZ := Lib.hid (fun w' (hb : Below w.heap.size w w') => show Calls Try.prog 15 #[.slice A l.length c] w' fun e w'' => e = .returned (.bool true) ∧ Below w'.heap.size w' w'' by rw [← hf]; exact zzFits2_any l A c w' (hl.below hb))
    clear hl hf
    go_enter Try.func20, Try.ntmps20
    go_wp2_with (go_at_call 15; refine (HZ.out _ ((Below.refl _ _).alloc (Nat.le_refl _) _)).mono ?_; rintro e w1 ⟨rfl, hb1⟩)
    go_ret
    exact ⟨rfl, up_below' ((Below.refl _ _).alloc (Nat.le_refl _) _) hb1⟩

end Go.Proofs.Ytiijcmdfbgoafaa
