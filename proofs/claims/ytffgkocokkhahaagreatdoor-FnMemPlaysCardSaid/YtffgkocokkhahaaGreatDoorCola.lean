/-
  ql.collateRank and collateDiffType of any value. PRINTED BY wip/tpl/gen_col.py.
-/
import Derived.Test.YtffgkocokkhahaaGreatDoorIn
import Derived.Test.YtffgkocokkhahaaGreatDoorAs
import Derived.Deep.RegionWith
namespace Go.Proofs.YtffgkocokkhahaaGreatDoor
open Go.RowKit

set_option maxRecDepth 100000 in
set_option maxHeartbeats 1000000 in
theorem rank_any (x : SV) (v : Value) (w : World) (h : Rep w x v) :
    Calls Tryz.prog 128 #[v] w fun e w' => e = .returned (.int .i64 x.rank) ∧ w = w' := by
  cases x with
  | blob l =>
    obtain ⟨a, cap, rfl, h1, h2⟩ := h
    clear h1 h2
    go_enter Tryz.func128, Tryz.ntmps128
    go_wp2
    go_ret
    exact ⟨rfl, rfl⟩
  | int q n =>
    obtain rfl := h
    cases q <;>
    · simp only [kindT]
      go_enter Tryz.func128, Tryz.ntmps128
      go_wp2
      go_ret
      exact ⟨rfl, rfl⟩
  | _ =>
    obtain rfl := h
    go_enter Tryz.func128, Tryz.ntmps128
    go_wp2
    go_ret
    exact ⟨rfl, rfl⟩


set_option maxRecDepth 100000 in
set_option maxHeartbeats 1000000 in
theorem diffN_any (r s : Int) (u v : Value) (w : World)
    (H1 : Hid (Calls Tryz.prog 128 #[u] w fun e w' => e = .returned (.int .i64 r) ∧ w = w'))
    (H2 : Hid (Calls Tryz.prog 128 #[v] w fun e w' => e = .returned (.int .i64 s) ∧ w = w')) :
    Calls Tryz.prog 126 #[u, v] w fun e w' => e = .returned (.int .i64 (if r < s then -1 else if r > s then 1 else 0)) ∧ w = w' := by
  by_cases h1 : r < s
  · rw [if_pos h1]
    go_enter Tryz.func126, Tryz.ntmps126
    go_wp2_with (first | (go_at_call_of 128 u; refine H1.out.mono ?_; rintro e w' ⟨rfl, rfl⟩) | (go_at_call_of 128 v; refine H2.out.mono ?_; rintro e w' ⟨rfl, rfl⟩))
    go_ret
    exact ⟨rfl, rfl⟩
  · rw [if_neg h1]
    by_cases h2 : s < r
    · rw [if_pos h2]
      go_enter Tryz.func126, Tryz.ntmps126
      go_wp2_with (first | (go_at_call_of 128 u; refine H1.out.mono ?_; rintro e w' ⟨rfl, rfl⟩) | (go_at_call_of 128 v; refine H2.out.mono ?_; rintro e w' ⟨rfl, rfl⟩))
      go_ret
      exact ⟨rfl, rfl⟩
    · rw [if_neg h2]
      go_enter Tryz.func126, Tryz.ntmps126
      go_wp2_with (first | (go_at_call_of 128 u; refine H1.out.mono ?_; rintro e w' ⟨rfl, rfl⟩) | (go_at_call_of 128 v; refine H2.out.mono ?_; rintro e w' ⟨rfl, rfl⟩))
      go_ret
      exact ⟨rfl, rfl⟩

theorem diff_rep (x y : SV) (u v : Value) (w : World) (hu : Rep w x u) (hv : Rep w y v) :
    Calls Tryz.prog 126 #[u, v] w fun e w' => e = .returned (.int .i64 (byRank x y)) ∧ w = w' :=
  diffN_any x.rank y.rank u v w (rank_any x u w hu) (rank_any y v w hv)

end Go.Proofs.YtffgkocokkhahaaGreatDoor
