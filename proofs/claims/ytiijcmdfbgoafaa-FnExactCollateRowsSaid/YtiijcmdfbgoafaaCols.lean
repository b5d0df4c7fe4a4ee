/-
  laws.collates, laws.sign; impl.Rank. PRINTED BY wip/tpl/gen_coc.py.
-/
import Derived.Test.YtiijcmdfbgoafaaCol
import Derived.Test.YtiijcmdfbgoafaaConc
import Derived.Deep.RegionWith
namespace Go.Proofs.Ytiijcmdfbgoafaa
open Go.RowKit

theorem collate_12 (w : World) : Calls Try.prog 11 #[.agg #[.string int64S, .int .i64 1, .int .u64 0, .float .f64 0, .string empS], .agg #[.string int64S, .int .i64 2, .int .u64 0, .float .f64 0, .string empS]] w (ColP (-1) w) := by
  have h := implCollate_any int64S 1 0 0 empS int64S 2 0 0 empS ⟨by omega, by omega, by omega, by omega, by omega⟩ (by decide +kernel) ⟨by omega, by omega, by omega, by omega, by omega⟩ (by decide +kernel) w
  rw [show (toSV (Kd.of int64S.toList) 1 0 0 empS).coll (toSV (Kd.of int64S.toList) 2 0 0 empS) = -1 from by
    rw [show Kd.of int64S.toList = .int .i64 from by decide +kernel]
    decide] at h
  exact h

set_option maxRecDepth 100000 in
set_option maxHeartbeats 1000000 in
theorem collates_any (w : World) : Calls Try.prog 10 #[] w fun e w' => e = .returned (.bool true) ∧ Below w.heap.size w w' := by
  go_enter Try.func10, Try.ntmps10
  go_wp2_with (first | (go_at_call_of 19 (Value.int .i64 1); refine (num_any _ _).mono ?_; rintro e w1 ⟨rfl, hb1⟩) | (go_at_call_of 19 (Value.int .i64 2); refine (num_any _ _).mono ?_; rintro e w2 ⟨rfl, hb2⟩) | (go_at_call 11; refine (collate_12 _).mono ?_; rintro e w3 ⟨rfl, hb3⟩))
  go_ret
  exact ⟨rfl, by repeat (first | exact Below.refl _ _ | exact below_al3 _ _ _ _ | exact ((Below.refl _ _).alloc (Nat.le_refl _) _).alloc (by simp) _ | exact (Below.refl _ _).alloc (Nat.le_refl _) _ | refine Below.drew ?_ | refine Below.setCell ?_ (by first | omega | (simp; omega)) _ | refine Below.alloc ?_ (by first | omega | (simp; omega)) _ | refine below_drewN ?_ _ | refine up_below ?_ (Nat.le_refl _) (by assumption))⟩

def sgn (n : Int) : Int := if n < 0 then -1 else if n > 0 then 1 else 0

set_option maxRecDepth 100000 in
set_option maxHeartbeats 1000000 in
theorem sign_any (n : Int) (w : World) : Calls Try.prog 13 #[.int .i64 n] w fun e w' => e = .returned (.int .i64 (sgn n)) ∧ w = w' := by
  by_cases h1 : n < 0
  · rw [show sgn n = -1 from if_pos h1]
    go_enter Try.func13, Try.ntmps13
    go_wp2
    go_ret
    exact ⟨rfl, rfl⟩
  · by_cases h2 : n > 0
    · rw [show sgn n = 1 from by unfold sgn; rw [if_neg h1, if_pos h2]]
      go_enter Try.func13, Try.ntmps13
      go_wp2
      go_ret
      exact ⟨rfl, rfl⟩
    · obtain rfl : n = 0 := by omega
      go_enter Try.func13, Try.ntmps13
      go_wp2
      go_ret
      exact ⟨rfl, rfl⟩

set_option maxRecDepth 100000 in
set_option maxHeartbeats 1000000 in
theorem implRank_any (k : ByteArray) (n u : Int) (f : Nat) (s : ByteArray) (hr : Rng n u f) (hv : validB (Kd.of k.toList) n u f s = true) (w : World) :
    Calls Try.prog 14 #[.agg #[.string k, .int .i64 n, .int .u64 u, .float .f64 f, .string s]] w fun e w' => ∃ y, SVof (Kd.of k.toList) n u f s y ∧ e = .returned (.int .i64 y.rank) ∧ Below w.heap.size w w' := by
  have HI := Lib.hid (fun w => in_any k n u f s hr hv w)
  clear hr hv
  go_enter Try.func14, Try.ntmps14
  go_wp2_with (first | (go_at_call 26; refine (HI.out _).mono ?_; rintro e w1 ⟨v, y, rfl, hrep0, hb1, hsv0⟩; have hrep := Lib.hid hrep0; have hsv := Lib.hid hsv0; clear hrep0 hsv0) | (go_at_call 27; refine (zzRank_any y v _ hrep.out).mono ?_; rintro e w2 ⟨rfl, rfl⟩))
  go_ret
  exact ⟨y, hsv.out, rfl, by repeat (first | exact Below.refl _ _ | exact below_al3 _ _ _ _ | exact ((Below.refl _ _).alloc (Nat.le_refl _) _).alloc (by simp) _ | exact (Below.refl _ _).alloc (Nat.le_refl _) _ | refine Below.drew ?_ | refine Below.setCell ?_ (by first | omega | (simp; omega)) _ | refine Below.alloc ?_ (by first | omega | (simp; omega)) _ | refine below_drewN ?_ _ | refine up_below ?_ (Nat.le_refl _) (by assumption))⟩

theorem coll_three (x y : SV) (px : x.plain) (py : y.plain) : x.coll y = -1 ∨ x.coll y = 0 ∨ x.coll y = 1 := by
  rw [coll_lex px py]
  have hz : bytesOrd x.text y.text = -1 ∨ bytesOrd x.text y.text = 0 ∨ bytesOrd x.text y.text = 1 := by
    rcases bytesOrd_cases x.text y.text with ⟨h, _⟩ | ⟨h, _⟩ | ⟨h, _⟩ <;> simp [h]
  unfold SV.lex
  generalize bytesOrd x.text y.text = z at *
  repeat' split
  all_goals omega

end Go.Proofs.Ytiijcmdfbgoafaa
