/-
  impl.Contains of abc and b; laws.spells. PRINTED BY wip/tpl/gen_lawlen.py.
-/
import Derived.Test.YtamekjbdpcflfaaDoorLen
namespace Go.Proofs.YtamekjbdpcflfaaDoor
open Go.RowKit

set_option maxRecDepth 100000 in
set_option maxHeartbeats 1000000 in
theorem zn_abc (w : World) : Calls Tryd.prog 59 #[.string ⟨#[97, 98, 99]⟩, .string ⟨#[98]⟩] w fun e w' => e = .returned (.bool true) ∧ w = w' := by
  go_enter Tryd.func59, Tryd.ntmps59
  go_wp2_with (go_at_call 60; refine (index_abc _).mono ?_; rintro e w' ⟨rfl, rfl⟩)
  go_ret
  exact ⟨rfl, rfl⟩

set_option maxRecDepth 100000 in
set_option maxHeartbeats 1000000 in
theorem bc_abc (b : Nat) (m : Value) (w : World) (c0 : w.cell? ⟨b, 0, none⟩ = some (.iface 9 (.string ⟨#[97, 98, 99]⟩))) (c1 : w.cell? ⟨b, 1, none⟩ = some (.iface 9 (.string ⟨#[98]⟩))) :
    Calls Tryd.prog 57 #[.slice (some ⟨b, 0, none⟩) 2 2, m] w fun e w' => e = .returned (.tuple #[.iface 4 (.bool true), .nilIface]) ∧ w = w' := by
  go_enter Tryd.func57, Tryd.ntmps57
  go_wp2_with (go_at_call 59; refine (zn_abc _).mono ?_; rintro e w' ⟨rfl, rfl⟩)
  go_ret2
  exact ⟨rfl, rfl⟩

set_option maxRecDepth 100000 in
set_option maxHeartbeats 1000000 in
theorem zc_abc (b : Nat) (w : World) (c0 : w.cell? ⟨b, 0, none⟩ = some (.iface 9 (.string ⟨#[97, 98, 99]⟩))) (c1 : w.cell? ⟨b, 1, none⟩ = some (.iface 9 (.string ⟨#[98]⟩))) :
    Calls Tryd.prog 47 #[.slice (some ⟨b, 0, none⟩) 2 2] w fun e w' => e = .returned (.tuple #[.iface 4 (.bool true), .nilIface]) ∧ w = w' := by
  go_enter Tryd.func47, Tryd.ntmps47
  go_wp2_with (go_at_call 57; refine (bc_abc b _ _ c0 c1).mono ?_; rintro e w' ⟨rfl, rfl⟩)
  go_ret2
  exact ⟨rfl, rfl⟩

set_option maxRecDepth 100000 in
set_option maxHeartbeats 1000000 in
theorem implCn_true (s t : ByteArray) (HZ : Hid (∀ (b : Nat) (w : World), w.cell? ⟨b, 0, none⟩ = some (.iface 9 (.string s)) → w.cell? ⟨b, 1, none⟩ = some (.iface 9 (.string t)) → Calls Tryd.prog 47 #[.slice (some ⟨b, 0, none⟩) 2 2] w fun e w' => e = .returned (.tuple #[.iface 4 (.bool true), .nilIface]) ∧ w = w')) (w : World) :
    Calls Tryd.prog 33 #[.agg #[.string strS, .int .i64 0, .int .u64 0, .float .f64 0, .string s], .agg #[.string strS, .int .i64 0, .int .u64 0, .float .f64 0, .string t]] w
      fun e w' => e = .returned (.tuple #[.agg #[.string boolS, .int .i64 1, .int .u64 0, .float .f64 0, .string empS], .int .i64 0]) ∧ Below w.heap.size w w' := by
  have HI := Lib.hid (fun (s : ByteArray) w => in_str strS (by decide +kernel) 0 0 0 s w)
  go_enter Tryd.func33, Tryd.ntmps33
  go_wp2
  go_region_with (first | (go_at_call_of 26 (Value.string s); refine (HI.out s _).mono ?_; rintro e w1 ⟨rfl, hb1⟩; obtain ⟨hc1, hf1⟩ := bcellD hb1; have hz1 : w.heap.size < w1.heap.size := (by have := hb1.size; (try simp at this); omega); have hy1 : w.heap.size + 1 < w1.heap.size := (by have := hb1.size; (try simp at this); omega); have hx1 : w.heap.size + 2 < w1.heap.size := (by have := hb1.size; (try simp at this); omega)) | (go_at_call_of 26 (Value.string t); refine (HI.out t _).mono ?_; rintro e w2 ⟨rfl, hb2⟩; obtain ⟨hc2, hf2⟩ := bcell hb2; have hz2 : w.heap.size < w2.heap.size := (by have := hb2.size; (try simp at this); omega); have hy2 : w.heap.size + 1 < w2.heap.size := (by have := hb2.size; (try simp at this); omega); have hx2 : w.heap.size + 2 < w2.heap.size := (by have := hb2.size; (try simp at this); omega)) | (go_at_call 47; refine (HZ.out w2.heap.size _ (by simp [go_sem]) (by simp [go_sem])).mono ?_; rintro e w3 ⟨rfl, rfl⟩) | (go_at_call 29; refine (told_ok (.bool true) trivial _ _ rfl).mono ?_; rintro e w4 ⟨g, hg, rfl, hb4⟩; obtain rfl : g = 0 := hg; obtain ⟨hc4, hf4⟩ := bcell hb4; have hz4 : w.heap.size < w4.heap.size := (by have := hb4.size; (try simp at this); omega); have hy4 : w.heap.size + 1 < w4.heap.size := (by have := hb4.size; (try simp at this); omega); have hx4 : w.heap.size + 2 < w4.heap.size := (by have := hb4.size; (try simp at this); omega)))
  all_goals
    go_wp2
    exact bodyPost_ret (v := .tuple #[.agg #[.string boolS, .int .i64 1, .int .u64 0, .float .f64 0, .string empS], .int .i64 0]) (by simp [results, go_sem, hc1, hc2, hc4, hy2, hx1, hx2]; exact ⟨rfl, rfl, rfl, rfl⟩) rfl ⟨rfl, below_st5 (up_below ((up_below (up_below (below_h3 w _ _ _).drew (Nat.le_refl _) hb1) (Nat.le_refl _) hb2).alloc (by omega) _) (Nat.le_refl _) hb4) (by omega) _ _ _ _ _⟩


set_option maxRecDepth 100000 in
set_option maxHeartbeats 1000000 in
theorem spells_any (w : World) : Calls Tryd.prog 17 #[] w fun e w' => e = .returned (.bool true) ∧ Below w.heap.size w w' := by
  go_enter Tryd.func17, Tryd.ntmps17
  go_wp2_with (first | (go_at_call_of 12 (Value.string ⟨#[97, 98, 99]⟩); refine (str_any _ _).mono ?_; rintro e w1 ⟨rfl, hb1⟩; have hs1 := hb1.size) | (go_at_call_of 12 (Value.string ⟨#[98]⟩); refine (str_any _ _).mono ?_; rintro e w2 ⟨rfl, hb2⟩; have hs2 := hb2.size) | (go_at_call 33; refine (implCn_true ⟨#[97, 98, 99]⟩ ⟨#[98]⟩ zc_abc _).mono ?_; rintro e w3 ⟨rfl, hb3⟩; have hs3 := hb3.size) | (go_at_call 13; refine (isTrue_1 _).mono ?_; rintro e w4 ⟨rfl, hb4⟩))
  go_ret
  exact ⟨rfl, (by repeat (first | (with_reducible exact Below.refl _ _) | (with_reducible refine up_below ?_ (Nat.le_refl _) (by assumption)) | (with_reducible refine Below.alloc ?_ (by first | omega | (simp; omega)) _) | (with_reducible refine Below.drew ?_)))⟩

end Go.Proofs.YtamekjbdpcflfaaDoor
