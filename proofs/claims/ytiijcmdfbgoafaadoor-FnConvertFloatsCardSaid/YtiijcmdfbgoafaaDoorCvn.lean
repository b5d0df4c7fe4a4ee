/-
  ql.convert of NULL, and of the int64 300 to int8; impl.Convert of these; laws.converts. PRINTED BY wip/tpl/gen_cv.py.
-/
import Derived.Test.YtiijcmdfbgoafaaDoorTold
import Derived.Test.YtiijcmdfbgoafaaDoorFita
namespace Go.Proofs.YtiijcmdfbgoafaaDoor
open Go.RowKit

set_option maxRecDepth 100000 in
set_option maxHeartbeats 1000000 in
theorem cv_nil (t : Int) (w : World) : Calls Tryd.prog 57 #[.nilIface, .int .i64 t] w fun e w' => e = .returned (.tuple #[.nilIface, .nilIface]) ∧ w = w' := by
  go_enter Tryd.func57, Tryd.ntmps57
  go_wp2
  go_ret2
  exact ⟨rfl, rfl⟩

set_option maxRecDepth 100000 in
set_option maxHeartbeats 1000000 in
theorem cv_300 (w : World) : Calls Tryd.prog 57 #[.iface 2 (.int .i64 300), .int .i64 105] w fun e w' => e = .returned (.tuple #[.iface 74 (.int .i8 44), .nilIface]) ∧ w = w' := by
  go_enter Tryd.func57, Tryd.ntmps57
  go_wp2
  go_ret2
  exact ⟨rfl, rfl⟩

set_option maxRecDepth 100000 in
set_option maxHeartbeats 1000000 in
theorem zzCv_ok (u v : Value) (t : Int) (w : World) (H : Hid (Calls Tryd.prog 57 #[u, .int .i64 t] w fun e w' => e = .returned (.tuple #[v, .nilIface]) ∧ w = w')) : Calls Tryd.prog 47 #[u, .int .i64 t] w fun e w' => e = .returned (.tuple #[v, .nilIface]) ∧ w = w' := by
  go_enter Tryd.func47, Tryd.ntmps47
  go_wp2_with (go_at_call 57; refine H.out.mono ?_; rintro e w1 ⟨rfl, rfl⟩)
  go_ret2
  exact ⟨rfl, rfl⟩

set_option maxRecDepth 100000 in
set_option maxHeartbeats 1000000 in
theorem icv_ok (y : SV) (hy : y.wf) (u v : Value) (t : Int) (ht : (t == 0) = false) (w : World) (H : Hid (∀ w', Below w.heap.size w w' → Calls Tryd.prog 57 #[u, .int .i64 t] w' fun e w'' => e = .returned (.tuple #[v, .nilIface]) ∧ w' = w'')) (hv : Rep w y v) :
    Calls Tryd.prog 32 #[u, .int .i64 t] w (ToldPost y w) := by
  have HZ := Lib.hid (fun w' (hb : Below w.heap.size w w') => zzCv_ok u v t w' (H.out w' hb))
  have HT := Lib.hid (fun w' (hb : Below w.heap.size w w') => told_ok y hy v w' (hv.below hb))
  clear H hv hy
  go_enter Tryd.func32, Tryd.ntmps32
  go_wp2_with (first | (go_at_call 47; refine (HZ.out _ (by repeat (first | exact Below.refl _ _ | exact (Below.refl _ _).alloc (Nat.le_refl _) _ | refine Below.drew ?_ | refine below_drewN ?_ _ | refine Below.setCell ?_ (by first | omega | (simp; omega) | simp) _ | refine Below.alloc ?_ (by first | omega | (simp; omega)) _ | refine up_below ?_ (Nat.le_refl _) (by assumption)))).mono ?_; rintro e w1 ⟨rfl, rfl⟩) | (go_at_call 28; refine (HT.out _ (by repeat (first | exact Below.refl _ _ | exact (Below.refl _ _).alloc (Nat.le_refl _) _ | refine Below.drew ?_ | refine below_drewN ?_ _ | refine Below.setCell ?_ (by first | omega | (simp; omega) | simp) _ | refine Below.alloc ?_ (by first | omega | (simp; omega)) _ | refine up_below ?_ (Nat.le_refl _) (by assumption)))).mono ?_; rintro e w1 ⟨g, hfo0, rfl, hb1⟩; have hfo := Lib.hid hfo0; clear hfo0; obtain ⟨hc1, hf1⟩ := bcell hb1; have hz1 : w.heap.size < w1.heap.size := (by have := hb1.size; (try simp at this); omega)))
  exact bodyPost_ret (v := .tuple #[.agg #[.string y.nm, .int .i64 y.oN, .int .u64 y.oU, .float .f64 g, .string y.oS], .int .i64 0]) (by simp [results, go_sem, hc1]) rfl ⟨g, hfo.out, rfl, by repeat (first | exact Below.refl _ _ | exact (Below.refl _ _).alloc (Nat.le_refl _) _ | refine Below.drew ?_ | refine below_drewN ?_ _ | refine Below.setCell ?_ (by first | omega | (simp; omega) | simp) _ | refine Below.alloc ?_ (by first | omega | (simp; omega)) _ | refine up_below ?_ (Nat.le_refl _) (by assumption))⟩

set_option maxRecDepth 100000 in
set_option maxHeartbeats 1000000 in
theorem implCv_null (k : ByteArray) (hk : (Kd.of k.toList).col = true) (ht : ((Kd.of k.toList).ty == 0) = false) (w : World) :
    Calls Tryd.prog 15 #[.agg #[.string ⟨#[]⟩, .int .i64 0, .int .u64 0, .float .f64 0, .string ⟨#[]⟩], .string k] w fun e w' => e = .returned (.tuple #[.agg #[.string ⟨#[]⟩, .int .i64 0, .int .u64 0, .float .f64 0, .string ⟨#[]⟩], .int .i64 0]) ∧ Below w.heap.size w w' := by
  have HI := Lib.hid (fun w => in_any ⟨#[]⟩ 0 0 0 ⟨#[]⟩ ⟨by omega, by omega, by omega, by omega, by omega⟩ (by decide +kernel) w)
  have HS : Hid (∀ y, SVof (Kd.of (⟨#[]⟩ : ByteArray).toList) 0 0 0 ⟨#[]⟩ y → y = .null) := fun y h => by
    rw [show Kd.of (⟨#[]⟩ : ByteArray).toList = .null from by decide +kernel] at h
    unfold SVof at h
    rw [if_neg (fun h => by cases h.1)] at h
    exact h
  have HT := Lib.hid (fun w => zzType_any k hk w)
  have HC := Lib.hid (fun w => icv_ok .null trivial .nilIface .nilIface _ ht w (fun w' _ => cv_nil _ w') rfl)
  clear hk ht
  go_enter Tryd.func15, Tryd.ntmps15
  go_wp2_with (first | (go_at_call 30; refine (HI.out _).mono ?_; rintro e w1 ⟨v, y, rfl, hrep, hb1, hsv⟩; obtain rfl := HS.out y hsv; obtain rfl : v = _ := hrep; clear hsv; obtain ⟨hc1, hf1⟩ := bcell hb1; have hz1 : w.heap.size < w1.heap.size := (by have := hb1.size; (try simp at this); omega); have hy1 : w.heap.size + 1 < w1.heap.size := (by have := hb1.size; (try simp at this); omega)) | (go_at_call 27; refine (HT.out _).mono ?_; rintro e w2 ⟨rfl, rfl⟩) | (go_at_call 32; refine (HC.out _).mono ?_; rintro e w3 ⟨g, hg, rfl, hb3⟩; obtain rfl : g = 0 := hg; obtain ⟨hc3, hf3⟩ := bcell hb3; have hz3 : w.heap.size < w3.heap.size := (by have := hb3.size; (try simp at this); omega); have hy3 : w.heap.size + 1 < w3.heap.size := (by have := hb3.size; (try simp at this); omega)))
  exact bodyPost_ret (v := .tuple #[.agg #[.string ⟨#[]⟩, .int .i64 0, .int .u64 0, .float .f64 0, .string ⟨#[]⟩], .int .i64 0]) (by simp [results, go_sem, hc1, hc3, hy1]; exact ⟨rfl, rfl, rfl, rfl⟩) rfl ⟨rfl, below_st5 (up_below (up_below (below_b2 w _ _) (Nat.le_refl _) hb1) (Nat.le_refl _) hb3) (by omega) _ _ _ _ _⟩

def int8S : ByteArray := ⟨#[105, 110, 116, 56]⟩

set_option maxRecDepth 100000 in
set_option maxHeartbeats 1000000 in
theorem implCv_300 (w : World) :
    Calls Tryd.prog 15 #[.agg #[.string int64S, .int .i64 300, .int .u64 0, .float .f64 0, .string empS], .string int8S] w fun e w' => e = .returned (.tuple #[.agg #[.string int8S, .int .i64 44, .int .u64 0, .float .f64 0, .string empS], .int .i64 0]) ∧ Below w.heap.size w w' := by
  have HI := Lib.hid (fun w => in_any int64S 300 0 0 empS ⟨by omega, by omega, by omega, by omega, by omega⟩ (by decide +kernel) w)
  have HS : Hid (∀ y, SVof (Kd.of int64S.toList) 300 0 0 empS y → y = .int .i64 300) := fun y h => by
    rw [show Kd.of int64S.toList = .int .i64 from by decide +kernel] at h
    unfold SVof at h
    rw [if_neg (fun h => by cases h.1)] at h
    exact h
  have HT := Lib.hid (fun w => zzType_any int8S (by decide +kernel) w)
  rw [show Kd.of int8S.toList = .int .i8 from by decide +kernel] at HT
  have HC := Lib.hid (fun w => icv_ok (.int .i8 44) (by simp [SV.wf, IntKind.min, IntKind.max, IntKind.signed, IntKind.bits]) (.iface 2 (.int .i64 300)) _ 105 (by decide) w (fun w' _ => cv_300 w') rfl)
  go_enter Tryd.func15, Tryd.ntmps15
  go_wp2_with (first | (go_at_call 30; refine (HI.out _).mono ?_; rintro e w1 ⟨v, y, rfl, hrep, hb1, hsv⟩; obtain rfl := HS.out y hsv; obtain rfl : v = _ := hrep; clear hsv; obtain ⟨hc1, hf1⟩ := bcell hb1; have hz1 : w.heap.size < w1.heap.size := (by have := hb1.size; (try simp at this); omega); have hy1 : w.heap.size + 1 < w1.heap.size := (by have := hb1.size; (try simp at this); omega)) | (go_at_call 27; refine (HT.out _).mono ?_; rintro e w2 ⟨rfl, rfl⟩) | (go_at_call 32; refine (HC.out _).mono ?_; rintro e w3 ⟨g, hg, rfl, hb3⟩; obtain rfl : g = 0 := hg; obtain ⟨hc3, hf3⟩ := bcell hb3; have hz3 : w.heap.size < w3.heap.size := (by have := hb3.size; (try simp at this); omega); have hy3 : w.heap.size + 1 < w3.heap.size := (by have := hb3.size; (try simp at this); omega)))
  exact bodyPost_ret (v := .tuple #[.agg #[.string int8S, .int .i64 44, .int .u64 0, .float .f64 0, .string empS], .int .i64 0]) (by simp [results, go_sem, hc1, hc3, hy1]; exact ⟨rfl, rfl, rfl, rfl⟩) rfl ⟨rfl, below_st5 (up_below (up_below (below_b2 w _ _) (Nat.le_refl _) hb1) (Nat.le_refl _) hb3) (by omega) _ _ _ _ _⟩

set_option maxRecDepth 100000 in
set_option maxHeartbeats 1000000 in
theorem converts_any (w : World) : Calls Tryd.prog 14 #[] w fun e w' => e = .returned (.bool true) ∧ Below w.heap.size w w' := by
  have h8 : (int8S.toList == [105, 110, 116, 56]) = true := by decide +kernel
  go_enter Tryd.func14, Tryd.ntmps14
  go_wp2_with (first | (go_at_call 24; refine (num_any _ _).mono ?_; rintro e w1 ⟨rfl, hb1⟩; have hz1 := hb1.size) | (go_at_call 15; refine (implCv_300 _).mono ?_; rintro e w2 ⟨rfl, hb2⟩; have hz2 := hb2.size))
  go_ret
  exact ⟨rfl, by repeat (first | exact Below.refl _ _ | exact (Below.refl _ _).alloc (Nat.le_refl _) _ | refine Below.drew ?_ | refine below_drewN ?_ _ | refine Below.setCell ?_ (by first | omega | (simp; omega) | simp) _ | refine Below.alloc ?_ (by first | omega | (simp; omega)) _ | refine up_below ?_ (Nat.le_refl _) (by assumption))⟩

end Go.Proofs.YtiijcmdfbgoafaaDoor
