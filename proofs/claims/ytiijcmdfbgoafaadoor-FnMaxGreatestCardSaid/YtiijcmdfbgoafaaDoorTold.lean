/-
  impl.told, laws.null. PRINTED BY wip/tpl/gen_cv.py.
-/
import Derived.Test.YtiijcmdfbgoafaaDoorErr
namespace Go.Proofs.YtiijcmdfbgoafaaDoor
open Go.RowKit

theorem below_b2 (w : World) (a b : Obj) : Below w.heap.size w ((w.alloc a).alloc b) := ((Below.refl _ _).alloc (Nat.le_refl _) _).alloc (by simp) _
theorem below_st5 {B : Nat} {w w' : World} (h : Below B w w') {b : Nat} (hb : B ≤ b) (a0 a1 a2 a3 a4 : Value) :
    Below B w (((((w'.setCell ⟨b, 0, none⟩ a0).setCell ⟨b, 1, none⟩ a1).setCell ⟨b, 2, none⟩ a2).setCell ⟨b, 3, none⟩ a3).setCell ⟨b, 4, none⟩ a4) :=
  ((((h.setCell hb _).setCell hb _).setCell hb _).setCell hb _).setCell hb _

/-- A value and no error: it comes out, with 0. -/
def ToldPost (x : SV) (w : World) (e : Ending) (w' : World) : Prop :=
  ∃ g, FOut x g ∧ e = .returned (.tuple #[.agg #[.string x.nm, .int .i64 x.oN, .int .u64 x.oU, .float .f64 g, .string x.oS], .int .i64 0]) ∧ Below w.heap.size w w'

set_option maxRecDepth 100000 in
set_option maxHeartbeats 1000000 in
theorem told_ok (x : SV) (hx : x.wf) (v : Value) (w : World) (h : Rep w x v) : Calls Tryd.prog 28 #[v, .nilIface] w (ToldPost x w) := by
  have HO := Lib.hid (fun w' (hb : Below w.heap.size w w') => out_any x hx v w' (h.below hb))
  clear h hx
  go_enter Tryd.func28, Tryd.ntmps28
  go_wp2_with (go_at_call 41; refine (HO.out _ (by repeat (first | exact Below.refl _ _ | exact (Below.refl _ _).alloc (Nat.le_refl _) _ | refine Below.drew ?_ | refine below_drewN ?_ _ | refine Below.setCell ?_ (by first | omega | (simp; omega) | simp) _ | refine Below.alloc ?_ (by first | omega | (simp; omega)) _ | refine up_below ?_ (Nat.le_refl _) (by assumption)))).mono ?_; rintro e w1 ⟨g, rfl, hb1, hfo0⟩; have hfo := Lib.hid hfo0; clear hfo0; obtain ⟨hc1, hf1⟩ := bcell hb1; have hz1 : w.heap.size < w1.heap.size := (by have := hb1.size; (try simp at this); omega))
  exact bodyPost_ret (v := .tuple #[.agg #[.string x.nm, .int .i64 x.oN, .int .u64 x.oU, .float .f64 g, .string x.oS], .int .i64 0]) (by simp [results, go_sem, hc1]) rfl ⟨g, hfo.out, rfl, by repeat (first | exact Below.refl _ _ | exact (Below.refl _ _).alloc (Nat.le_refl _) _ | refine Below.drew ?_ | refine below_drewN ?_ _ | refine Below.setCell ?_ (by first | omega | (simp; omega) | simp) _ | refine Below.alloc ?_ (by first | omega | (simp; omega)) _ | refine up_below ?_ (Nat.le_refl _) (by assumption))⟩

/-- An error: a number that is not 0. -/
def NotPost (w : World) (e : Ending) (w' : World) : Prop := ∃ c : Int, e = .returned (.tuple #[.agg #[.string ⟨#[]⟩, .int .i64 0, .int .u64 0, .float .f64 0, .string ⟨#[]⟩], .int .i64 c]) ∧ c ≠ 0 ∧ Below w.heap.size w w'

set_option maxRecDepth 100000 in
set_option maxHeartbeats 1000000 in
theorem told_err (v : Value) (p a : Addr) (w : World) (h : Has w a) (hE : Er w p) : Calls Tryd.prog 28 #[v, .iface 101 (.pointer (some p))] w (NotPost w) := by
  have HZ := Lib.hid (fun w' (hb : Below w.heap.size w w') => zzErr_some a p w' (h.of hb) (hE.of hb))
  clear h hE
  go_enter Tryd.func28, Tryd.ntmps28
  go_wp2_with (go_at_call 40; refine (HZ.out _ (by repeat (first | exact Below.refl _ _ | exact (Below.refl _ _).alloc (Nat.le_refl _) _ | refine Below.drew ?_ | refine below_drewN ?_ _ | refine Below.setCell ?_ (by first | omega | (simp; omega) | simp) _ | refine Below.alloc ?_ (by first | omega | (simp; omega)) _ | refine up_below ?_ (Nat.le_refl _) (by assumption)))).mono ?_; rintro e w1 ⟨c, rfl, hc, rfl⟩; have hc' := Lib.hid hc; clear hc)
  exact bodyPost_ret (v := .tuple #[.agg #[.string ⟨#[]⟩, .int .i64 0, .int .u64 0, .float .f64 0, .string ⟨#[]⟩], .int .i64 c]) (by simp [results, go_sem]) rfl ⟨c, rfl, hc'.out, by repeat (first | exact Below.refl _ _ | exact (Below.refl _ _).alloc (Nat.le_refl _) _ | refine Below.drew ?_ | refine below_drewN ?_ _ | refine Below.setCell ?_ (by first | omega | (simp; omega) | simp) _ | refine Below.alloc ?_ (by first | omega | (simp; omega)) _ | refine up_below ?_ (Nat.le_refl _) (by assumption))⟩

set_option maxRecDepth 100000 in
set_option maxHeartbeats 1000000 in
theorem null_any (w : World) : Calls Tryd.prog 21 #[] w fun e w' => e = .returned (.agg #[.string ⟨#[]⟩, .int .i64 0, .int .u64 0, .float .f64 0, .string ⟨#[]⟩]) ∧ Below w.heap.size w w' := by
  go_enter Tryd.func21, Tryd.ntmps21
  go_wp2
  exact bodyPost_ret (v := .agg #[.string ⟨#[]⟩, .int .i64 0, .int .u64 0, .float .f64 0, .string ⟨#[]⟩]) (by simp [results, go_sem]) rfl ⟨rfl, by repeat (first | exact Below.refl _ _ | exact (Below.refl _ _).alloc (Nat.le_refl _) _ | refine Below.drew ?_ | refine below_drewN ?_ _ | refine Below.setCell ?_ (by first | omega | (simp; omega) | simp) _ | refine Below.alloc ?_ (by first | omega | (simp; omega)) _ | refine up_below ?_ (Nat.le_refl _) (by assumption))⟩

end Go.Proofs.YtiijcmdfbgoafaaDoor
