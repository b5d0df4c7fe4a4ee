/-
  The walk of laws.FnConvertNull: it returns true. PRINTED BY wip/tpl/gen_cv.py.
-/
import Derived.Test.YtiijcmdfbgoafaaDoorCvn
import Derived.Test.YtiijcmdfbgoafaaDoorBw
namespace Go.Proofs.YtiijcmdfbgoafaaDoor
open Go.RowKit

theorem same_null (w : World) : Calls Tryd.prog 19 #[.agg #[.string ⟨#[]⟩, .int .i64 0, .int .u64 0, .float .f64 0, .string ⟨#[]⟩], .agg #[.string ⟨#[]⟩, .int .i64 0, .int .u64 0, .float .f64 0, .string ⟨#[]⟩]] w fun e w' => e = .returned (.bool true) ∧ Below w.heap.size w w' := by
  have h := same_any ⟨#[]⟩ 0 0 0 ⟨#[]⟩ ⟨#[]⟩ 0 0 0 ⟨#[]⟩ w
  rw [show sameB ⟨#[]⟩ 0 0 0 ⟨#[]⟩ ⟨#[]⟩ 0 0 0 ⟨#[]⟩ = true from by decide +kernel] at h
  exact h

set_option maxRecDepth 100000 in
set_option maxHeartbeats 1000000 in
theorem lawCvN_out (c : Int) (h : c < 0 ∨ 13 ≤ c) (w : World) : Calls Tryd.prog 6 #[.int .i64 c] w fun e w' => e = .returned (.bool true) ∧ Below w.heap.size w w' := by
  have hcell0 : ∀ (w1 : World) (b : Nat), (∀ j, j < 13 → w1.cell? ⟨b, j, none⟩ = some (.string (kname j))) → True := fun _ _ _ => trivial
  by_cases h1 : c < 0
  · clear h
    go_enter Tryd.func6, Tryd.ntmps6
    go_wp2_with (first | (go_at_call 8; refine (kinds_any _).mono ?_; rintro e w1 ⟨b, rfl, hlo, hz1, hb1, hcell⟩; have hj1 := hcell0 w1 b hcell; clear hcell) | (go_at_call 14; refine (converts_any _).mono ?_; rintro e w9 ⟨rfl, hb9⟩))
    go_ret
    exact ⟨rfl, by repeat (first | exact Below.refl _ _ | exact hb1 | exact (Below.refl _ _).alloc (Nat.le_refl _) _ | refine Below.drew ?_ | refine below_drewN ?_ _ | refine Below.setCell ?_ (by first | omega | (simp; omega) | simp) _ | refine Below.alloc ?_ (by first | omega | (simp; omega)) _ | refine up_below ?_ (Nat.le_refl _) (by assumption))⟩
  · have h2 : 13 ≤ c := by omega
    clear h
    go_enter Tryd.func6, Tryd.ntmps6
    go_wp2_with (first | (go_at_call 8; refine (kinds_any _).mono ?_; rintro e w1 ⟨b, rfl, hlo, hz1, hb1, hcell⟩; have hj1 := hcell0 w1 b hcell; clear hcell) | (go_at_call 14; refine (converts_any _).mono ?_; rintro e w9 ⟨rfl, hb9⟩))
    go_ret
    exact ⟨rfl, by repeat (first | exact Below.refl _ _ | exact hb1 | exact (Below.refl _ _).alloc (Nat.le_refl _) _ | refine Below.drew ?_ | refine below_drewN ?_ _ | refine Below.setCell ?_ (by first | omega | (simp; omega) | simp) _ | refine Below.alloc ?_ (by first | omega | (simp; omega)) _ | refine up_below ?_ (Nat.le_refl _) (by assumption))⟩

set_option maxRecDepth 100000 in
set_option maxHeartbeats 1000000 in
theorem lawCvN_in (c : Int) (k : ByteArray) (h1 : 0 ≤ c) (h2 : c < 13) (hk : kname c.toNat = k)
    (HN : Hid (∀ w, Calls Tryd.prog 15 #[.agg #[.string ⟨#[]⟩, .int .i64 0, .int .u64 0, .float .f64 0, .string ⟨#[]⟩], .string k] w fun e w' => e = .returned (.tuple #[.agg #[.string ⟨#[]⟩, .int .i64 0, .int .u64 0, .float .f64 0, .string ⟨#[]⟩], .int .i64 0]) ∧ Below w.heap.size w w')) (w : World) : Calls Tryd.prog 6 #[.int .i64 c] w fun e w' => e = .returned (.bool true) ∧ Below w.heap.size w w' := by
  have hcell0 : ∀ (w1 : World) (b : Nat), (∀ j, j < 13 → w1.cell? ⟨b, j, none⟩ = some (.string (kname j))) → w1.cell? ⟨b, c.toNat, none⟩ = some (.string k) := fun w1 b h => by rw [h c.toNat (by omega), hk]
  clear hk
  have HS := Lib.hid (fun w => same_null w)
  go_enter Tryd.func6, Tryd.ntmps6
  go_wp2_with ((go_at_call 8; refine (kinds_any _).mono ?_; rintro e w1 ⟨b, rfl, hlo, hz1, hb1, hcell⟩; have hj1 := hcell0 w1 b hcell; clear hcell))
  go_region_with (first | (go_at_call 21; refine (null_any _).mono ?_; rintro e w2 ⟨rfl, hb2⟩; obtain ⟨hc2, hf2⟩ := (by first | exact bcellD hb2 | exact bcell hb2); have hB2 : Below w.heap.size w w2 := up_below (by first | (with_reducible exact hb1.drew) | (with_reducible exact (hb1.alloc hb1.size _).drew) | (with_reducible exact (hb1.drew).alloc hb1.size _) | (with_reducible exact Below.alloc hb1.drew hb1.size _)) (Nat.le_refl _) hb2; have hz2 : b < w2.heap.size := (by have := hb2.size; (try simp at this); omega); (try (have hx2 : w1.heap.size < w2.heap.size := (by have := hb2.size; (try simp at this); omega)))) | (go_at_call 15; refine (HN.out _).mono ?_; rintro e w3 ⟨rfl, hb3⟩; obtain ⟨hc3, hf3⟩ := bcell hb3; have hz3 : b < w3.heap.size := (by have := hb3.size; (try simp at this); omega); have hB3 : Below w.heap.size w w3 := up_below (by first | (with_reducible exact hB2) | (with_reducible exact hB2.alloc hB2.size _)) (Nat.le_refl _) hb3; (try (have hx3 : w1.heap.size < w3.heap.size := (by have := hb3.size; (try simp at this); omega))); (try (have hv3 : w2.heap.size < w3.heap.size := (by have := hb3.size; (try simp at this); omega)))))
  all_goals
    go_wp2_with ((go_at_call 14; refine (converts_any _).mono ?_; rintro e w9 ⟨rfl, hb9⟩))
    refine wp_region_bw (by kernel_rfl) (by kernel_rfl) ?_
    repeat (quiet_step ((first | (go_at_call 21; exact bw_of (null_any _)) | (go_at_call 19; exact bw_of (HS.out _)) | (go_at_call 14; exact bw_of (converts_any _)))))
    refine wpQuiet_nil ?_
    intro _ hw'
    obtain ⟨pq, hw''⟩ := hw'
    subst hw''
    go_wp2
    go_ret
    have hs1 := hb1.size
    have hs2 := hB2.size
    exact ⟨rfl, up_below (by first | (with_reducible exact hB3.alloc hB3.size _) | (with_reducible refine below_st5 hB3 ?_ _ _ _ _ _; omega)) (Nat.le_refl _) pq.h⟩


theorem lawCvN_walk (c : Int) (_wc : (Lit.int .i64 c).wf = true) (a : Addr) (w : World) (_hg : Has w a) : Calls Tryd.prog 6 #[.int .i64 c] w fun e w' => e = .returned (.bool true) ∧ Below w.heap.size w w' := by
  by_cases ho : c < 0 ∨ 13 ≤ c
  · exact lawCvN_out c ho w
  · have h1 : 0 ≤ c := by omega
    have h2 : c < 13 := by omega
    have hall : c = 0 ∨ c = 1 ∨ c = 2 ∨ c = 3 ∨ c = 4 ∨ c = 5 ∨ c = 6 ∨ c = 7 ∨ c = 8 ∨ c = 9 ∨ c = 10 ∨ c = 11 ∨ c = 12 := by omega
    clear ho
    refine lawCvN_in c _ h1 h2 rfl (fun w => implCv_null _ ?_ ?_ w) w
    all_goals
      rcases hall with rfl | rfl | rfl | rfl | rfl | rfl | rfl | rfl | rfl | rfl | rfl | rfl | rfl <;> decide +kernel

end Go.Proofs.YtiijcmdfbgoafaaDoor
