/-
  ql.ZZTypeCheck, impl.TypeCheck of a literal integer. PRINTED BY wip/tpl/gen_tc2.py.
-/
import Derived.Test.YtiijcmdfbgoafaaDoorTc
import Derived.Deep.RegionWith
namespace Go.Proofs.YtiijcmdfbgoafaaDoor
open Go.RowKit

theorem below_t3 (w : World) (a b c : Obj) : Below w.heap.size w (((w.alloc a).alloc b).alloc c) := (((Below.refl _ _).alloc (Nat.le_refl _) _).alloc (by simp) _).alloc (by simp; omega) _

set_option maxRecDepth 100000 in
set_option maxHeartbeats 1000000 in
theorem ztc_fit (n : Int) (U : TypeId) (z : Value) (ty : Int) (HT : Hid (∀ b c d w, w.cell? ⟨b, 0, none⟩ = some (.iface 95 (.int .i64 n)) → w.frozen? ⟨b, 0, none⟩ = false → w.cell? ⟨d, 0, none⟩ = some (.pointer (some ⟨c, 0, none⟩)) → w.cell? ⟨c, 0, none⟩ = some (.int .i64 0) → w.cell? ⟨c, 2, none⟩ = some (.int .i64 ty) → Calls Tryd.prog 42 #[.slice (some ⟨b, 0, none⟩) 1 1, .slice (some ⟨d, 0, none⟩) 1 1] w fun e w' => e = .returned .nilIface ∧ w' = w.setCell ⟨b, 0, none⟩ (.iface U z))) (w : World) :
    Calls Tryd.prog 29 #[.iface 95 (.int .i64 n), .int .i64 ty] w fun e w' => e = .returned (.tuple #[.iface U z, .nilIface]) ∧ Below w.heap.size w w' := by
  go_enter Tryd.func29, Tryd.ntmps29
  go_wp2_with (go_at_call 42; refine (HT.out w.heap.size (w.heap.size + 1) (w.heap.size + 1 + 1) _ (by simp [go_sem]) (by simp [go_sem]) (by simp [go_sem]) (by simp [go_sem]) (by simp [go_sem])).mono ?_; rintro e w1 ⟨rfl, rfl⟩)
  go_ret2
  exact ⟨rfl, below_t3 w _ _ _⟩

set_option maxRecDepth 100000 in
set_option maxHeartbeats 1000000 in
theorem ztc_err (n : Int) (ty : Int) (HT : Hid (∀ b c d w, w.cell? ⟨b, 0, none⟩ = some (.iface 95 (.int .i64 n)) → w.cell? ⟨d, 0, none⟩ = some (.pointer (some ⟨c, 0, none⟩)) → w.cell? ⟨c, 0, none⟩ = some (.int .i64 0) → w.cell? ⟨c, 2, none⟩ = some (.int .i64 ty) → Calls Tryd.prog 42 #[.slice (some ⟨b, 0, none⟩) 1 1, .slice (some ⟨d, 0, none⟩) 1 1] w (ErPost w))) (w : World) :
    Calls Tryd.prog 29 #[.iface 95 (.int .i64 n), .int .i64 ty] w fun e w' => ∃ p, e = .returned (.tuple #[.iface 95 (.int .i64 n), .iface 101 (.pointer (some p))]) ∧ Er w' p ∧ Below w.heap.size w w' := by
  go_enter Tryd.func29, Tryd.ntmps29
  go_wp2_with (go_at_call 42; refine (HT.out w.heap.size (w.heap.size + 1) (w.heap.size + 1 + 1) _ (by simp [go_sem]) (by simp [go_sem]) (by simp [go_sem]) (by simp [go_sem])).mono ?_; rintro e w1 ⟨p, rfl, he, hb1⟩; have HE := Lib.hid he; clear he; obtain ⟨hc1, hf1⟩ := bcell hb1; have hz1 : w.heap.size < w1.heap.size := (by have := hb1.size; (try simp at this); omega))
  go_ret2
  exact ⟨p, rfl, HE.out, up_below (below_t3 w _ _ _) (Nat.le_refl _) hb1⟩

theorem in_lit (n : Int) (w : World) : Calls Tryd.prog 30 #[.agg #[.string idealIntS, .int .i64 n, .int .u64 0, .float .f64 0, .string empS]] w fun e w' => e = .returned (.iface 95 (.int .i64 n)) ∧ Below w.heap.size w w' := in_iInt idealIntS (by decide +kernel) n 0 0 empS w

set_option maxRecDepth 100000 in
set_option maxHeartbeats 1000000 in
theorem itc_fit (n : Int) (k : ByteArray) (q : IntKind) (ty : Int) (hty : (ty == 0) = false) (hw : (SV.int q n).wf)
    (HT : Hid (∀ w, Calls Tryd.prog 27 #[.string k] w fun e w' => e = .returned (.int .i64 ty) ∧ w = w'))
    (HZ : Hid (∀ w, Calls Tryd.prog 29 #[.iface 95 (.int .i64 n), .int .i64 ty] w fun e w' => e = .returned (.tuple #[.iface (kindT q) (.int q n), .nilIface]) ∧ Below w.heap.size w w')) (w : World) :
    Calls Tryd.prog 11 #[.agg #[.string idealIntS, .int .i64 n, .int .u64 0, .float .f64 0, .string empS], .string k] w (ToldPost (.int q n) w) := by
  have HI := Lib.hid (fun w => in_lit n w)
  have HW := Lib.hid hw
  clear hw
  go_enter Tryd.func11, Tryd.ntmps11
  go_wp2_with (first | (go_at_call 30; refine (HI.out _).mono ?_; rintro e w1 ⟨rfl, hb1⟩; obtain ⟨hc1, hf1⟩ := bcell hb1; have hz1 : w.heap.size < w1.heap.size := (by have := hb1.size; (try simp at this); omega); have hy1 : w.heap.size + 1 < w1.heap.size := (by have := hb1.size; (try simp at this); omega)) | (go_at_call 27; refine (HT.out _).mono ?_; rintro e w2 ⟨rfl, rfl⟩) | (go_at_call 29; refine (HZ.out _).mono ?_; rintro e w3 ⟨rfl, hb3⟩; obtain ⟨hc3, hf3⟩ := bcell hb3; have hz3 : w.heap.size < w3.heap.size := (by have := hb3.size; (try simp at this); omega); have hy3 : w.heap.size + 1 < w3.heap.size := (by have := hb3.size; (try simp at this); omega)) | (go_at_call 28; refine (told_ok (.int q n) HW.out _ _ rfl).mono ?_; rintro e w4 ⟨g, hg0, rfl, hb4⟩; have hg := Lib.hid hg0; clear hg0; obtain ⟨hc4, hf4⟩ := bcell hb4; have hz4 : w.heap.size < w4.heap.size := (by have := hb4.size; (try simp at this); omega); have hy4 : w.heap.size + 1 < w4.heap.size := (by have := hb4.size; (try simp at this); omega)))
  exact bodyPost_ret (v := .tuple #[.agg #[.string (SV.int q n).nm, .int .i64 (SV.int q n).oN, .int .u64 (SV.int q n).oU, .float .f64 g, .string (SV.int q n).oS], .int .i64 0]) (by simp [results, go_sem, hc1, hc3, hc4, hy1, hy3]) rfl ⟨g, hg.out, rfl, below_st5 (up_below (up_below (up_below (below_b2 w _ _) (Nat.le_refl _) hb1) (Nat.le_refl _) hb3) (Nat.le_refl _) hb4) (by omega) _ _ _ _ _⟩

set_option maxRecDepth 100000 in
set_option maxHeartbeats 1000000 in
theorem itc_err (n : Int) (k : ByteArray) (ty : Int) (hty : (ty == 0) = false)
    (HT : Hid (∀ w, Calls Tryd.prog 27 #[.string k] w fun e w' => e = .returned (.int .i64 ty) ∧ w = w'))
    (HZ : Hid (∀ w, Calls Tryd.prog 29 #[.iface 95 (.int .i64 n), .int .i64 ty] w fun e w' => ∃ p, e = .returned (.tuple #[.iface 95 (.int .i64 n), .iface 101 (.pointer (some p))]) ∧ Er w' p ∧ Below w.heap.size w w')) (a : Addr) (w : World) (hg : Has w a) :
    Calls Tryd.prog 11 #[.agg #[.string idealIntS, .int .i64 n, .int .u64 0, .float .f64 0, .string empS], .string k] w (NotPost w) := by
  have HI := Lib.hid (fun w => in_lit n w)
  have HG := Lib.hid hg
  clear hg
  go_enter Tryd.func11, Tryd.ntmps11
  go_wp2_with (first | (go_at_call 30; refine (HI.out _).mono ?_; rintro e w1 ⟨rfl, hb1⟩; obtain ⟨hc1, hf1⟩ := bcell hb1; have hz1 : w.heap.size < w1.heap.size := (by have := hb1.size; (try simp at this); omega); have hy1 : w.heap.size + 1 < w1.heap.size := (by have := hb1.size; (try simp at this); omega)) | (go_at_call 27; refine (HT.out _).mono ?_; rintro e w2 ⟨rfl, rfl⟩) | (go_at_call 29; refine (HZ.out _).mono ?_; rintro e w3 ⟨p, rfl, he, hb3⟩; have HE := Lib.hid he; clear he; obtain ⟨hc3, hf3⟩ := bcell hb3; have hz3 : w.heap.size < w3.heap.size := (by have := hb3.size; (try simp at this); omega); have hy3 : w.heap.size + 1 < w3.heap.size := (by have := hb3.size; (try simp at this); omega); have hB3 : Below w.heap.size w w3 := up_below (up_below (below_b2 w _ _) (Nat.le_refl _) hb1) (Nat.le_refl _) hb3) | (go_at_call 28; refine (told_err _ p a _ (HG.out.of hB3) HE.out).mono ?_; rintro e w4 ⟨c, rfl, hc, hb4⟩; have hc' := Lib.hid hc; clear hc; obtain ⟨hc4, hf4⟩ := bcell hb4; have hz4 : w.heap.size < w4.heap.size := (by have := hb4.size; (try simp at this); omega); have hy4 : w.heap.size + 1 < w4.heap.size := (by have := hb4.size; (try simp at this); omega)))
  exact bodyPost_ret (v := .tuple #[.agg #[.string ⟨#[]⟩, .int .i64 0, .int .u64 0, .float .f64 0, .string ⟨#[]⟩], .int .i64 c]) (by simp [results, go_sem, hc1, hc3, hc4, hy1, hy3]) rfl ⟨c, rfl, hc'.out, below_st5 (up_below hB3 (Nat.le_refl _) hb4) (by omega) _ _ _ _ _⟩

end Go.Proofs.YtiijcmdfbgoafaaDoor
