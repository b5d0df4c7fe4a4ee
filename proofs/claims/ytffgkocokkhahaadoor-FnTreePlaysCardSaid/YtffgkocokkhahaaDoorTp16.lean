/-
  Walking the tree: (*enumerator).Next, Prev. PRINTED BY wip/tpl/gen_yh.py. || Walking the tree: (*enumerator).Next, Prev behind a page, and at the end. PRINTED BY wip/tpl/gen_yh.py.
-/
import Derived.Test.YtffgkocokkhahaaDoorTp15

/- Walking the tree: (*enumerator).Next, Prev. PRINTED BY wip/tpl/gen_yh.py. -/
namespace Go.Proofs.YtffgkocokkhahaaDoor
open Go.RowKit
variable {G : Value}

def OverP (E : Value) (b : Nat) (w : World) (y : Ending) (w' : World) : Prop :=
  y = .returned (.tuple #[.slice none 0 0, .slice none 0 0, E]) ∧ Chg (fun k => k = b) w w'

set_option maxRecDepth 100000 in
set_option maxHeartbeats 1000000 in
theorem Next_at (b q i : Nat) (hit : Bool) (kv : Value) (t : Nat) (ver : Int) (es : List XE) (rest : List Value) (nx pv : Value) (x : XE) (c : Int) (fi la r : Value) (w : World)
    (he : EnumAt w b .nilIface hit i kv (ptr q) t ver) (hq : PageAt w q es rest nx pv) (hi : es[i]? = some x) (ht : TreeW G w t c fi la r ver) (kv1 : ∃ A m p, kv = .slice A m p) (R : Value) (i' : Nat) (q' : Value)
    (HN : Hid (∀ w1, Chg (fun k => k = b) w w1 → EnumAt w1 b .nilIface false i (.slice x.A x.m x.p) (ptr q) t ver → Calls Tryd.prog 113 #[.pointer (some ⟨b, 0, none⟩)] w1
      fun y w' => y = .returned R ∧ EnumAt w' b R false i' (.slice x.A x.m x.p) q' t ver ∧ Chg (fun k => k = b) w1 w')) :
    Calls Tryd.prog 79 #[.pointer (some ⟨b, 0, none⟩)] w
      fun y w' => y = .returned (.tuple #[.slice x.A x.m x.p, .slice x.B x.n x.q, .nilIface]) ∧ EnumAt w' b R false i' (.slice x.A x.m x.p) q' t ver ∧ Chg (fun k => k = b) w w' := by
  have hle := hq.le
  have hin : i < es.length := (List.getElem?_eq_some_iff.1 hi).1
  obtain ⟨A, m, p, rfl⟩ := kv1
  have HE := Lib.hid he
  have HQ := Lib.hid hq
  have HT := Lib.hid ht
  have HI := Lib.hid hi
  have hg : ((es.length : Int) ≤ i) = False := by simp; omega
  have hi1 : (i : Int) < 129 := by omega
  have hi2 : (0 : Int) ≤ i := by omega
  have hvv : (ver != ver) = false := by simp
  clear he hq ht hi
  have c0 : w.cell? ⟨b, 0, none⟩ = some .nilIface := cell_of_heap (heap_below HE.out (Below.refl _ _)) 0
  have c1 : w.cell? ⟨b, 1, none⟩ = some (.bool hit) := cell_of_heap (heap_below HE.out (Below.refl _ _)) 1
  have c2 : w.cell? ⟨b, 2, none⟩ = some (.int .i64 i) := cell_of_heap (heap_below HE.out (Below.refl _ _)) 2
  have c3 : w.cell? ⟨b, 3, none⟩ = some (.slice A m p) := cell_of_heap (heap_below HE.out (Below.refl _ _)) 3
  have c4 : w.cell? ⟨b, 4, none⟩ = some (.pointer (some ⟨q, 0, none⟩)) := cell_of_heap (heap_below HE.out (Below.refl _ _)) 4
  have c5 : w.cell? ⟨b, 5, none⟩ = some (.pointer (some ⟨t, 0, none⟩)) := cell_of_heap (heap_below HE.out (Below.refl _ _)) 5
  have c6 : w.cell? ⟨b, 6, none⟩ = some (.int .i64 ver) := cell_of_heap (heap_below HE.out (Below.refl _ _)) 6
  have f1 : w.frozen? ⟨b, 1, none⟩ = false := free_of_heap (heap_below HE.out (Below.refl _ _)) 1
  have f3 : w.frozen? ⟨b, 3, none⟩ = false := free_of_heap (heap_below HE.out (Below.refl _ _)) 3
  have cq : w.cell? ⟨q, 0, none⟩ = some (.int .i64 es.length) := by rw [(HQ.out.below (Below.refl _ _)).cell]; rfl
  have ct : w.cell? ⟨t, 5, none⟩ = some (.int .i64 ver) := cell_of_heap (heap_below HT.out (Below.refl _ _)) 5
  have e0 : w.cell? ⟨q, 1 + i * 2, none⟩ = some (.slice x.A x.m x.p) := ((HQ.out.below (Below.refl _ _)).cell _).trans (pgL_at XE.cells 2 XE.two es rest [nx, pv] i 0 x _ HI.out (by omega) rfl)
  have e1 : w.cell? ⟨q, 1 + i * 2 + 1, none⟩ = some (.slice x.B x.n x.q) := ((HQ.out.below (Below.refl _ _)).cell _).trans (pgL_at XE.cells 2 XE.two es rest [nx, pv] i 1 x _ HI.out (by omega) rfl)
  have lb : b < w.heap.size := lt_of_heap (heap_below HE.out (Below.refl _ _))
  have lq : q < w.heap.size := (HQ.out.below (Below.refl _ _)).lt
  have lt : t < w.heap.size := lt_of_heap (heap_below HT.out (Below.refl _ _))
  go_enter Tryd.func79, Tryd.ntmps79
  go_wp2_with fail
  go_still_tail 11, (by kernel_rfl)
  obtain ⟨wb, hwb⟩ : ∃ wz, wz = w.drew := ⟨_, rfl⟩
  change wpList _ _ _ _ _ w.drew
  rw [← hwb]
  have HBB := Lib.hid (show Below w.heap.size w wb by rw [hwb]; exact (Below.refl _ _).drew)
  clear c0 c1 c2 c3 c4 c5 c6 f1 f3 cq ct e0 e1 lb lq lt
  have c0 : wb.cell? ⟨b, 0, none⟩ = some .nilIface := cell_of_heap (heap_below HE.out HBB.out) 0
  have c1 : wb.cell? ⟨b, 1, none⟩ = some (.bool hit) := cell_of_heap (heap_below HE.out HBB.out) 1
  have c2 : wb.cell? ⟨b, 2, none⟩ = some (.int .i64 i) := cell_of_heap (heap_below HE.out HBB.out) 2
  have c3 : wb.cell? ⟨b, 3, none⟩ = some (.slice A m p) := cell_of_heap (heap_below HE.out HBB.out) 3
  have c4 : wb.cell? ⟨b, 4, none⟩ = some (.pointer (some ⟨q, 0, none⟩)) := cell_of_heap (heap_below HE.out HBB.out) 4
  have c5 : wb.cell? ⟨b, 5, none⟩ = some (.pointer (some ⟨t, 0, none⟩)) := cell_of_heap (heap_below HE.out HBB.out) 5
  have c6 : wb.cell? ⟨b, 6, none⟩ = some (.int .i64 ver) := cell_of_heap (heap_below HE.out HBB.out) 6
  have f1 : wb.frozen? ⟨b, 1, none⟩ = false := free_of_heap (heap_below HE.out HBB.out) 1
  have f3 : wb.frozen? ⟨b, 3, none⟩ = false := free_of_heap (heap_below HE.out HBB.out) 3
  have cq : wb.cell? ⟨q, 0, none⟩ = some (.int .i64 es.length) := by rw [(HQ.out.below HBB.out).cell]; rfl
  have ct : wb.cell? ⟨t, 5, none⟩ = some (.int .i64 ver) := cell_of_heap (heap_below HT.out HBB.out) 5
  have e0 : wb.cell? ⟨q, 1 + i * 2, none⟩ = some (.slice x.A x.m x.p) := ((HQ.out.below HBB.out).cell _).trans (pgL_at XE.cells 2 XE.two es rest [nx, pv] i 0 x _ HI.out (by omega) rfl)
  have e1 : wb.cell? ⟨q, 1 + i * 2 + 1, none⟩ = some (.slice x.B x.n x.q) := ((HQ.out.below HBB.out).cell _).trans (pgL_at XE.cells 2 XE.two es rest [nx, pv] i 1 x _ HI.out (by omega) rfl)
  have lb : b < wb.heap.size := lt_of_heap (heap_below HE.out HBB.out)
  have lq : q < wb.heap.size := (HQ.out.below HBB.out).lt
  have lt : t < wb.heap.size := lt_of_heap (heap_below HT.out HBB.out)
  clear hwb
  go_wp2_with fail
  go_still_tail 11, (by kernel_rfl)
  obtain ⟨wc, hwc⟩ : ∃ wz, wz = wb.drew := ⟨_, rfl⟩
  change wpList _ _ _ _ _ wb.drew
  rw [← hwc]
  have HBC := Lib.hid (show Below w.heap.size w wc by rw [hwc]; exact HBB.out.drew)
  clear c0 c1 c2 c3 c4 c5 c6 f1 f3 cq ct e0 e1 lb lq lt
  have c0 : wc.cell? ⟨b, 0, none⟩ = some .nilIface := cell_of_heap (heap_below HE.out HBC.out) 0
  have c1 : wc.cell? ⟨b, 1, none⟩ = some (.bool hit) := cell_of_heap (heap_below HE.out HBC.out) 1
  have c2 : wc.cell? ⟨b, 2, none⟩ = some (.int .i64 i) := cell_of_heap (heap_below HE.out HBC.out) 2
  have c3 : wc.cell? ⟨b, 3, none⟩ = some (.slice A m p) := cell_of_heap (heap_below HE.out HBC.out) 3
  have c4 : wc.cell? ⟨b, 4, none⟩ = some (.pointer (some ⟨q, 0, none⟩)) := cell_of_heap (heap_below HE.out HBC.out) 4
  have c5 : wc.cell? ⟨b, 5, none⟩ = some (.pointer (some ⟨t, 0, none⟩)) := cell_of_heap (heap_below HE.out HBC.out) 5
  have c6 : wc.cell? ⟨b, 6, none⟩ = some (.int .i64 ver) := cell_of_heap (heap_below HE.out HBC.out) 6
  have f1 : wc.frozen? ⟨b, 1, none⟩ = false := free_of_heap (heap_below HE.out HBC.out) 1
  have f3 : wc.frozen? ⟨b, 3, none⟩ = false := free_of_heap (heap_below HE.out HBC.out) 3
  have cq : wc.cell? ⟨q, 0, none⟩ = some (.int .i64 es.length) := by rw [(HQ.out.below HBC.out).cell]; rfl
  have ct : wc.cell? ⟨t, 5, none⟩ = some (.int .i64 ver) := cell_of_heap (heap_below HT.out HBC.out) 5
  have e0 : wc.cell? ⟨q, 1 + i * 2, none⟩ = some (.slice x.A x.m x.p) := ((HQ.out.below HBC.out).cell _).trans (pgL_at XE.cells 2 XE.two es rest [nx, pv] i 0 x _ HI.out (by omega) rfl)
  have e1 : wc.cell? ⟨q, 1 + i * 2 + 1, none⟩ = some (.slice x.B x.n x.q) := ((HQ.out.below HBC.out).cell _).trans (pgL_at XE.cells 2 XE.two es rest [nx, pv] i 1 x _ HI.out (by omega) rfl)
  have lb : b < wc.heap.size := lt_of_heap (heap_below HE.out HBC.out)
  have lq : q < wc.heap.size := (HQ.out.below HBC.out).lt
  have lt : t < wc.heap.size := lt_of_heap (heap_below HT.out HBC.out)
  clear hwc
  go_wp2_with fail
  go_wp2_with fail
  go_region
  obtain ⟨N, hN⟩ : ∃ N, N = wc.heap.size := ⟨_, rfl⟩
  obtain ⟨wd, hwd⟩ : ∃ wz, wz = (wc.alloc (.cells #[.slice x.A x.m x.p, .slice x.B x.n x.q] 129)).drew := ⟨_, rfl⟩
  rw [← hwd, ← hN]
  have HBD := Lib.hid (show Below w.heap.size w wd by rw [hwd]; exact (HBC.out.alloc HBC.out.size _).drew)
  have hnd : wd.heap[N]? = some (.cells #[.slice x.A x.m x.p, .slice x.B x.n x.q] 129 (0, 0)) := by rw [hwd, hN]; exact heap_new wc _
  clear c0 c1 c2 c3 c4 c5 c6 f1 f3 cq ct e0 e1 lb lq lt
  have c0 : wd.cell? ⟨b, 0, none⟩ = some .nilIface := cell_of_heap (heap_below HE.out HBD.out) 0
  have c1 : wd.cell? ⟨b, 1, none⟩ = some (.bool hit) := cell_of_heap (heap_below HE.out HBD.out) 1
  have c2 : wd.cell? ⟨b, 2, none⟩ = some (.int .i64 i) := cell_of_heap (heap_below HE.out HBD.out) 2
  have c3 : wd.cell? ⟨b, 3, none⟩ = some (.slice A m p) := cell_of_heap (heap_below HE.out HBD.out) 3
  have c4 : wd.cell? ⟨b, 4, none⟩ = some (.pointer (some ⟨q, 0, none⟩)) := cell_of_heap (heap_below HE.out HBD.out) 4
  have c5 : wd.cell? ⟨b, 5, none⟩ = some (.pointer (some ⟨t, 0, none⟩)) := cell_of_heap (heap_below HE.out HBD.out) 5
  have c6 : wd.cell? ⟨b, 6, none⟩ = some (.int .i64 ver) := cell_of_heap (heap_below HE.out HBD.out) 6
  have f1 : wd.frozen? ⟨b, 1, none⟩ = false := free_of_heap (heap_below HE.out HBD.out) 1
  have f3 : wd.frozen? ⟨b, 3, none⟩ = false := free_of_heap (heap_below HE.out HBD.out) 3
  have cq : wd.cell? ⟨q, 0, none⟩ = some (.int .i64 es.length) := by rw [(HQ.out.below HBD.out).cell]; rfl
  have ct : wd.cell? ⟨t, 5, none⟩ = some (.int .i64 ver) := cell_of_heap (heap_below HT.out HBD.out) 5
  have e0 : wd.cell? ⟨q, 1 + i * 2, none⟩ = some (.slice x.A x.m x.p) := ((HQ.out.below HBD.out).cell _).trans (pgL_at XE.cells 2 XE.two es rest [nx, pv] i 0 x _ HI.out (by omega) rfl)
  have e1 : wd.cell? ⟨q, 1 + i * 2 + 1, none⟩ = some (.slice x.B x.n x.q) := ((HQ.out.below HBD.out).cell _).trans (pgL_at XE.cells 2 XE.two es rest [nx, pv] i 1 x _ HI.out (by omega) rfl)
  have lb : b < wd.heap.size := lt_of_heap (heap_below HE.out HBD.out)
  have lq : q < wd.heap.size := (HQ.out.below HBD.out).lt
  have lt : t < wd.heap.size := lt_of_heap (heap_below HT.out HBD.out)
  have cn0 := cell_of_heap hnd 0
  have cn1 := cell_of_heap hnd 1
  clear hwd hN hnd
  go_wp2_with fail
  go_region
  go_wp2_with fail
  obtain ⟨w6, hw6⟩ : ∃ w6, w6 = ((wd.setCell ⟨b, 3, none⟩ (.slice x.A x.m x.p)).setCell ⟨b, 1, none⟩ (.bool false)).drew := ⟨_, rfl⟩
  rw [← hw6]
  have hc6 : Chg (fun k => k = b) w w6 := by
    rw [hw6]
    exact (Chg.setCell (Chg.setCell (Chg.of_below (S := fun k => k = b) HBD.out) (p := ⟨b, 3, none⟩) (.inl rfl) _) (p := ⟨b, 1, none⟩) (.inl rfl) _).drew
  have he6 : EnumAt w6 b .nilIface false i (.slice x.A x.m x.p) (ptr q) t ver := by
    unfold EnumAt
    rw [hw6, heap_drew, heap_setCell_at, heap_setCell_at, show wd.heap[b]? = _ from heap_below HE.out HBD.out]
    rfl
  refine (HN.out w6 hc6 he6).mono ?_
  rintro y w7 ⟨rfl, he7, hc7⟩
  clear hw6
  go_wp2
  go_ret3
  exact ⟨rfl, he7, hc6.trans hc7⟩

set_option maxRecDepth 100000 in
set_option maxHeartbeats 1000000 in
theorem Prev_at (b q i : Nat) (hit : Bool) (kv : Value) (t : Nat) (ver : Int) (es : List XE) (rest : List Value) (nx pv : Value) (x : XE) (c : Int) (fi la r : Value) (w : World)
    (he : EnumAt w b .nilIface hit i kv (ptr q) t ver) (hq : PageAt w q es rest nx pv) (hi : es[i]? = some x) (ht : TreeW G w t c fi la r ver) (kv1 : ∃ A m p, kv = .slice A m p) (R : Value) (i' : Nat) (q' : Value)
    (HN : Hid (∀ w1, Chg (fun k => k = b) w w1 → EnumAt w1 b .nilIface false i (.slice x.A x.m x.p) (ptr q) t ver → Calls Tryd.prog 114 #[.pointer (some ⟨b, 0, none⟩)] w1
      fun y w' => y = .returned R ∧ EnumAt w' b R false i' (.slice x.A x.m x.p) q' t ver ∧ Chg (fun k => k = b) w1 w')) :
    Calls Tryd.prog 80 #[.pointer (some ⟨b, 0, none⟩)] w
      fun y w' => y = .returned (.tuple #[.slice x.A x.m x.p, .slice x.B x.n x.q, .nilIface]) ∧ EnumAt w' b R false i' (.slice x.A x.m x.p) q' t ver ∧ Chg (fun k => k = b) w w' := by
  have hle := hq.le
  have hin : i < es.length := (List.getElem?_eq_some_iff.1 hi).1
  obtain ⟨A, m, p, rfl⟩ := kv1
  have HE := Lib.hid he
  have HQ := Lib.hid hq
  have HT := Lib.hid ht
  have HI := Lib.hid hi
  have hg : ((es.length : Int) ≤ i) = False := by simp; omega
  have hi1 : (i : Int) < 129 := by omega
  have hi2 : (0 : Int) ≤ i := by omega
  have hvv : (ver != ver) = false := by simp
  clear he hq ht hi
  have c0 : w.cell? ⟨b, 0, none⟩ = some .nilIface := cell_of_heap (heap_below HE.out (Below.refl _ _)) 0
  have c1 : w.cell? ⟨b, 1, none⟩ = some (.bool hit) := cell_of_heap (heap_below HE.out (Below.refl _ _)) 1
  have c2 : w.cell? ⟨b, 2, none⟩ = some (.int .i64 i) := cell_of_heap (heap_below HE.out (Below.refl _ _)) 2
  have c3 : w.cell? ⟨b, 3, none⟩ = some (.slice A m p) := cell_of_heap (heap_below HE.out (Below.refl _ _)) 3
  have c4 : w.cell? ⟨b, 4, none⟩ = some (.pointer (some ⟨q, 0, none⟩)) := cell_of_heap (heap_below HE.out (Below.refl _ _)) 4
  have c5 : w.cell? ⟨b, 5, none⟩ = some (.pointer (some ⟨t, 0, none⟩)) := cell_of_heap (heap_below HE.out (Below.refl _ _)) 5
  have c6 : w.cell? ⟨b, 6, none⟩ = some (.int .i64 ver) := cell_of_heap (heap_below HE.out (Below.refl _ _)) 6
  have f1 : w.frozen? ⟨b, 1, none⟩ = false := free_of_heap (heap_below HE.out (Below.refl _ _)) 1
  have f3 : w.frozen? ⟨b, 3, none⟩ = false := free_of_heap (heap_below HE.out (Below.refl _ _)) 3
  have cq : w.cell? ⟨q, 0, none⟩ = some (.int .i64 es.length) := by rw [(HQ.out.below (Below.refl _ _)).cell]; rfl
  have ct : w.cell? ⟨t, 5, none⟩ = some (.int .i64 ver) := cell_of_heap (heap_below HT.out (Below.refl _ _)) 5
  have e0 : w.cell? ⟨q, 1 + i * 2, none⟩ = some (.slice x.A x.m x.p) := ((HQ.out.below (Below.refl _ _)).cell _).trans (pgL_at XE.cells 2 XE.two es rest [nx, pv] i 0 x _ HI.out (by omega) rfl)
  have e1 : w.cell? ⟨q, 1 + i * 2 + 1, none⟩ = some (.slice x.B x.n x.q) := ((HQ.out.below (Below.refl _ _)).cell _).trans (pgL_at XE.cells 2 XE.two es rest [nx, pv] i 1 x _ HI.out (by omega) rfl)
  have lb : b < w.heap.size := lt_of_heap (heap_below HE.out (Below.refl _ _))
  have lq : q < w.heap.size := (HQ.out.below (Below.refl _ _)).lt
  have lt : t < w.heap.size := lt_of_heap (heap_below HT.out (Below.refl _ _))
  go_enter Tryd.func80, Tryd.ntmps80
  go_wp2_with fail
  go_still_tail 11, (by kernel_rfl)
  obtain ⟨wb, hwb⟩ : ∃ wz, wz = w.drew := ⟨_, rfl⟩
  change wpList _ _ _ _ _ w.drew
  rw [← hwb]
  have HBB := Lib.hid (show Below w.heap.size w wb by rw [hwb]; exact (Below.refl _ _).drew)
  clear c0 c1 c2 c3 c4 c5 c6 f1 f3 cq ct e0 e1 lb lq lt
  have c0 : wb.cell? ⟨b, 0, none⟩ = some .nilIface := cell_of_heap (heap_below HE.out HBB.out) 0
  have c1 : wb.cell? ⟨b, 1, none⟩ = some (.bool hit) := cell_of_heap (heap_below HE.out HBB.out) 1
  have c2 : wb.cell? ⟨b, 2, none⟩ = some (.int .i64 i) := cell_of_heap (heap_below HE.out HBB.out) 2
  have c3 : wb.cell? ⟨b, 3, none⟩ = some (.slice A m p) := cell_of_heap (heap_below HE.out HBB.out) 3
  have c4 : wb.cell? ⟨b, 4, none⟩ = some (.pointer (some ⟨q, 0, none⟩)) := cell_of_heap (heap_below HE.out HBB.out) 4
  have c5 : wb.cell? ⟨b, 5, none⟩ = some (.pointer (some ⟨t, 0, none⟩)) := cell_of_heap (heap_below HE.out HBB.out) 5
  have c6 : wb.cell? ⟨b, 6, none⟩ = some (.int .i64 ver) := cell_of_heap (heap_below HE.out HBB.out) 6
  have f1 : wb.frozen? ⟨b, 1, none⟩ = false := free_of_heap (heap_below HE.out HBB.out) 1
  have f3 : wb.frozen? ⟨b, 3, none⟩ = false := free_of_heap (heap_below HE.out HBB.out) 3
  have cq : wb.cell? ⟨q, 0, none⟩ = some (.int .i64 es.length) := by rw [(HQ.out.below HBB.out).cell]; rfl
  have ct : wb.cell? ⟨t, 5, none⟩ = some (.int .i64 ver) := cell_of_heap (heap_below HT.out HBB.out) 5
  have e0 : wb.cell? ⟨q, 1 + i * 2, none⟩ = some (.slice x.A x.m x.p) := ((HQ.out.below HBB.out).cell _).trans (pgL_at XE.cells 2 XE.two es rest [nx, pv] i 0 x _ HI.out (by omega) rfl)
  have e1 : wb.cell? ⟨q, 1 + i * 2 + 1, none⟩ = some (.slice x.B x.n x.q) := ((HQ.out.below HBB.out).cell _).trans (pgL_at XE.cells 2 XE.two es rest [nx, pv] i 1 x _ HI.out (by omega) rfl)
  have lb : b < wb.heap.size := lt_of_heap (heap_below HE.out HBB.out)
  have lq : q < wb.heap.size := (HQ.out.below HBB.out).lt
  have lt : t < wb.heap.size := lt_of_heap (heap_below HT.out HBB.out)
  clear hwb
  go_wp2_with fail
  go_still_tail 11, (by kernel_rfl)
  obtain ⟨wc, hwc⟩ : ∃ wz, wz = wb.drew := ⟨_, rfl⟩
  change wpList _ _ _ _ _ wb.drew
  rw [← hwc]
  have HBC := Lib.hid (show Below w.heap.size w wc by rw [hwc]; exact HBB.out.drew)
  clear c0 c1 c2 c3 c4 c5 c6 f1 f3 cq ct e0 e1 lb lq lt
  have c0 : wc.cell? ⟨b, 0, none⟩ = some .nilIface := cell_of_heap (heap_below HE.out HBC.out) 0
  have c1 : wc.cell? ⟨b, 1, none⟩ = some (.bool hit) := cell_of_heap (heap_below HE.out HBC.out) 1
  have c2 : wc.cell? ⟨b, 2, none⟩ = some (.int .i64 i) := cell_of_heap (heap_below HE.out HBC.out) 2
  have c3 : wc.cell? ⟨b, 3, none⟩ = some (.slice A m p) := cell_of_heap (heap_below HE.out HBC.out) 3
  have c4 : wc.cell? ⟨b, 4, none⟩ = some (.pointer (some ⟨q, 0, none⟩)) := cell_of_heap (heap_below HE.out HBC.out) 4
  have c5 : wc.cell? ⟨b, 5, none⟩ = some (.pointer (some ⟨t, 0, none⟩)) := cell_of_heap (heap_below HE.out HBC.out) 5
  have c6 : wc.cell? ⟨b, 6, none⟩ = some (.int .i64 ver) := cell_of_heap (heap_below HE.out HBC.out) 6
  have f1 : wc.frozen? ⟨b, 1, none⟩ = false := free_of_heap (heap_below HE.out HBC.out) 1
  have f3 : wc.frozen? ⟨b, 3, none⟩ = false := free_of_heap (heap_below HE.out HBC.out) 3
  have cq : wc.cell? ⟨q, 0, none⟩ = some (.int .i64 es.length) := by rw [(HQ.out.below HBC.out).cell]; rfl
  have ct : wc.cell? ⟨t, 5, none⟩ = some (.int .i64 ver) := cell_of_heap (heap_below HT.out HBC.out) 5
  have e0 : wc.cell? ⟨q, 1 + i * 2, none⟩ = some (.slice x.A x.m x.p) := ((HQ.out.below HBC.out).cell _).trans (pgL_at XE.cells 2 XE.two es rest [nx, pv] i 0 x _ HI.out (by omega) rfl)
  have e1 : wc.cell? ⟨q, 1 + i * 2 + 1, none⟩ = some (.slice x.B x.n x.q) := ((HQ.out.below HBC.out).cell _).trans (pgL_at XE.cells 2 XE.two es rest [nx, pv] i 1 x _ HI.out (by omega) rfl)
  have lb : b < wc.heap.size := lt_of_heap (heap_below HE.out HBC.out)
  have lq : q < wc.heap.size := (HQ.out.below HBC.out).lt
  have lt : t < wc.heap.size := lt_of_heap (heap_below HT.out HBC.out)
  clear hwc
  go_wp2_with fail
  go_wp2_with fail
  go_region
  obtain ⟨N, hN⟩ : ∃ N, N = wc.heap.size := ⟨_, rfl⟩
  obtain ⟨wd, hwd⟩ : ∃ wz, wz = (wc.alloc (.cells #[.slice x.A x.m x.p, .slice x.B x.n x.q] 129)).drew := ⟨_, rfl⟩
  rw [← hwd, ← hN]
  have HBD := Lib.hid (show Below w.heap.size w wd by rw [hwd]; exact (HBC.out.alloc HBC.out.size _).drew)
  have hnd : wd.heap[N]? = some (.cells #[.slice x.A x.m x.p, .slice x.B x.n x.q] 129 (0, 0)) := by rw [hwd, hN]; exact heap_new wc _
  clear c0 c1 c2 c3 c4 c5 c6 f1 f3 cq ct e0 e1 lb lq lt
  have c0 : wd.cell? ⟨b, 0, none⟩ = some .nilIface := cell_of_heap (heap_below HE.out HBD.out) 0
  have c1 : wd.cell? ⟨b, 1, none⟩ = some (.bool hit) := cell_of_heap (heap_below HE.out HBD.out) 1
  have c2 : wd.cell? ⟨b, 2, none⟩ = some (.int .i64 i) := cell_of_heap (heap_below HE.out HBD.out) 2
  have c3 : wd.cell? ⟨b, 3, none⟩ = some (.slice A m p) := cell_of_heap (heap_below HE.out HBD.out) 3
  have c4 : wd.cell? ⟨b, 4, none⟩ = some (.pointer (some ⟨q, 0, none⟩)) := cell_of_heap (heap_below HE.out HBD.out) 4
  have c5 : wd.cell? ⟨b, 5, none⟩ = some (.pointer (some ⟨t, 0, none⟩)) := cell_of_heap (heap_below HE.out HBD.out) 5
  have c6 : wd.cell? ⟨b, 6, none⟩ = some (.int .i64 ver) := cell_of_heap (heap_below HE.out HBD.out) 6
  have f1 : wd.frozen? ⟨b, 1, none⟩ = false := free_of_heap (heap_below HE.out HBD.out) 1
  have f3 : wd.frozen? ⟨b, 3, none⟩ = false := free_of_heap (heap_below HE.out HBD.out) 3
  have cq : wd.cell? ⟨q, 0, none⟩ = some (.int .i64 es.length) := by rw [(HQ.out.below HBD.out).cell]; rfl
  have ct : wd.cell? ⟨t, 5, none⟩ = some (.int .i64 ver) := cell_of_heap (heap_below HT.out HBD.out) 5
  have e0 : wd.cell? ⟨q, 1 + i * 2, none⟩ = some (.slice x.A x.m x.p) := ((HQ.out.below HBD.out).cell _).trans (pgL_at XE.cells 2 XE.two es rest [nx, pv] i 0 x _ HI.out (by omega) rfl)
  have e1 : wd.cell? ⟨q, 1 + i * 2 + 1, none⟩ = some (.slice x.B x.n x.q) := ((HQ.out.below HBD.out).cell _).trans (pgL_at XE.cells 2 XE.two es rest [nx, pv] i 1 x _ HI.out (by omega) rfl)
  have lb : b < wd.heap.size := lt_of_heap (heap_below HE.out HBD.out)
  have lq : q < wd.heap.size := (HQ.out.below HBD.out).lt
  have lt : t < wd.heap.size := lt_of_heap (heap_below HT.out HBD.out)
  have cn0 := cell_of_heap hnd 0
  have cn1 := cell_of_heap hnd 1
  clear hwd hN hnd
  go_wp2_with fail
  go_region
  go_wp2_with fail
  obtain ⟨w6, hw6⟩ : ∃ w6, w6 = ((wd.setCell ⟨b, 3, none⟩ (.slice x.A x.m x.p)).setCell ⟨b, 1, none⟩ (.bool false)).drew := ⟨_, rfl⟩
  rw [← hw6]
  have hc6 : Chg (fun k => k = b) w w6 := by
    rw [hw6]
    exact (Chg.setCell (Chg.setCell (Chg.of_below (S := fun k => k = b) HBD.out) (p := ⟨b, 3, none⟩) (.inl rfl) _) (p := ⟨b, 1, none⟩) (.inl rfl) _).drew
  have he6 : EnumAt w6 b .nilIface false i (.slice x.A x.m x.p) (ptr q) t ver := by
    unfold EnumAt
    rw [hw6, heap_drew, heap_setCell_at, heap_setCell_at, show wd.heap[b]? = _ from heap_below HE.out HBD.out]
    rfl
  refine (HN.out w6 hc6 he6).mono ?_
  rintro y w7 ⟨rfl, he7, hc7⟩
  clear hw6
  go_wp2
  go_ret3
  exact ⟨rfl, he7, hc6.trans hc7⟩

end Go.Proofs.YtffgkocokkhahaaDoor

/- Walking the tree: (*enumerator).Next, Prev behind a page, and at the end. PRINTED BY wip/tpl/gen_yh.py. -/
namespace Go.Proofs.YtffgkocokkhahaaDoor
open Go.RowKit
variable {G : Value}

set_option maxRecDepth 100000 in
set_option maxHeartbeats 1000000 in
theorem Next_over (b q0 q j i : Nat) (hit : Bool) (kv : Value) (t : Nat) (ver : Int) (es0 : List XE) (rest0 : List Value) (nx0 pv0 : Value) (es : List XE) (rest : List Value) (nx pv : Value) (x : XE) (c : Int) (fi la r : Value) (w0 : World)
    (he0 : EnumAt w0 b .nilIface hit j kv (ptr q0) t ver) (hq0 : PageAt w0 q0 es0 rest0 nx0 pv0) (hq : PageAt w0 q es rest nx pv) (hj : j = es0.length) (hi : es[i]? = some x) (ht : TreeW G w0 t c fi la r ver) (kv1 : ∃ A m p, kv = .slice A m p) (R : Value) (i' : Nat) (q' : Value)
    (HV : Hid (∀ w', Below w0.heap.size w0 w' → Calls Tryd.prog 113 #[.pointer (some ⟨b, 0, none⟩)] w' fun y w'' => y = .returned .nilIface ∧ EnumAt w'' b .nilIface hit (i : Int) kv (ptr q) t ver ∧ Chg (fun k => k = b) w' w''))
    (HN0 : Hid (∀ w1, Chg (fun k => k = b) w0 w1 → EnumAt w1 b .nilIface false i (.slice x.A x.m x.p) (ptr q) t ver → Calls Tryd.prog 113 #[.pointer (some ⟨b, 0, none⟩)] w1
      fun y w' => y = .returned R ∧ EnumAt w' b R false i' (.slice x.A x.m x.p) q' t ver ∧ Chg (fun k => k = b) w1 w')) :
    Calls Tryd.prog 79 #[.pointer (some ⟨b, 0, none⟩)] w0
      fun y w' => y = .returned (.tuple #[.slice x.A x.m x.p, .slice x.B x.n x.q, .nilIface]) ∧ EnumAt w' b R false i' (.slice x.A x.m x.p) q' t ver ∧ Chg (fun k => k = b) w0 w' := by
  have hle := hq.le
  have hle0 := hq0.le
  have hin : i < es.length := (List.getElem?_eq_some_iff.1 hi).1
  have hqb : ¬ q = b := fun e => tag_ne he0 hq.heap (by decide) e.symm
  have htb : ¬ t = b := fun e => tag_ne he0 ht (by decide) e.symm
  obtain ⟨A, m, p, rfl⟩ := kv1
  have HE0 := Lib.hid he0
  have HQ0 := Lib.hid hq0
  have HQQ := Lib.hid hq
  have HT0 := Lib.hid ht
  have HI := Lib.hid hi
  have hg : ((es0.length : Int) ≤ j) = True := by simp; omega
  have hi1 : (i : Int) < 129 := by omega
  have hi2 : (0 : Int) ≤ i := by omega
  have hvv : (ver != ver) = false := by simp
  clear he0 hq0 hq ht hi hj
  have c0 : w0.cell? ⟨b, 0, none⟩ = some .nilIface := cell_of_heap (heap_below HE0.out (Below.refl _ _)) 0
  have c1 : w0.cell? ⟨b, 1, none⟩ = some (.bool hit) := cell_of_heap (heap_below HE0.out (Below.refl _ _)) 1
  have c2 : w0.cell? ⟨b, 2, none⟩ = some (.int .i64 j) := cell_of_heap (heap_below HE0.out (Below.refl _ _)) 2
  have c3 : w0.cell? ⟨b, 3, none⟩ = some (.slice A m p) := cell_of_heap (heap_below HE0.out (Below.refl _ _)) 3
  have c4 : w0.cell? ⟨b, 4, none⟩ = some (.pointer (some ⟨q0, 0, none⟩)) := cell_of_heap (heap_below HE0.out (Below.refl _ _)) 4
  have c5 : w0.cell? ⟨b, 5, none⟩ = some (.pointer (some ⟨t, 0, none⟩)) := cell_of_heap (heap_below HE0.out (Below.refl _ _)) 5
  have c6 : w0.cell? ⟨b, 6, none⟩ = some (.int .i64 ver) := cell_of_heap (heap_below HE0.out (Below.refl _ _)) 6
  have cq : w0.cell? ⟨q0, 0, none⟩ = some (.int .i64 es0.length) := by rw [(HQ0.out.below (Below.refl _ _)).cell]; rfl
  have ct : w0.cell? ⟨t, 5, none⟩ = some (.int .i64 ver) := cell_of_heap (heap_below HT0.out (Below.refl _ _)) 5
  go_enter Tryd.func79, Tryd.ntmps79
  go_wp2_with fail
  go_still_tail 11, (by kernel_rfl)
  obtain ⟨wb, hwb⟩ : ∃ wz, wz = w0.drew := ⟨_, rfl⟩
  change wpList _ _ _ _ _ w0.drew
  rw [← hwb]
  have HBB0 := Lib.hid (show Below w0.heap.size w0 wb by rw [hwb]; exact (Below.refl _ _).drew)
  clear c0 c1 c2 c3 c4 c5 c6 cq ct
  have c0 : wb.cell? ⟨b, 0, none⟩ = some .nilIface := cell_of_heap (heap_below HE0.out HBB0.out) 0
  have c1 : wb.cell? ⟨b, 1, none⟩ = some (.bool hit) := cell_of_heap (heap_below HE0.out HBB0.out) 1
  have c2 : wb.cell? ⟨b, 2, none⟩ = some (.int .i64 j) := cell_of_heap (heap_below HE0.out HBB0.out) 2
  have c3 : wb.cell? ⟨b, 3, none⟩ = some (.slice A m p) := cell_of_heap (heap_below HE0.out HBB0.out) 3
  have c4 : wb.cell? ⟨b, 4, none⟩ = some (.pointer (some ⟨q0, 0, none⟩)) := cell_of_heap (heap_below HE0.out HBB0.out) 4
  have c5 : wb.cell? ⟨b, 5, none⟩ = some (.pointer (some ⟨t, 0, none⟩)) := cell_of_heap (heap_below HE0.out HBB0.out) 5
  have c6 : wb.cell? ⟨b, 6, none⟩ = some (.int .i64 ver) := cell_of_heap (heap_below HE0.out HBB0.out) 6
  have cq : wb.cell? ⟨q0, 0, none⟩ = some (.int .i64 es0.length) := by rw [(HQ0.out.below HBB0.out).cell]; rfl
  have ct : wb.cell? ⟨t, 5, none⟩ = some (.int .i64 ver) := cell_of_heap (heap_below HT0.out HBB0.out) 5
  clear hwb
  go_wp2_with fail
  go_still_tail 11, (by kernel_rfl)
  obtain ⟨wc, hwc⟩ : ∃ wz, wz = wb.drew := ⟨_, rfl⟩
  change wpList _ _ _ _ _ wb.drew
  rw [← hwc]
  have HBC0 := Lib.hid (show Below w0.heap.size w0 wc by rw [hwc]; exact HBB0.out.drew)
  clear c0 c1 c2 c3 c4 c5 c6 cq ct
  have c0 : wc.cell? ⟨b, 0, none⟩ = some .nilIface := cell_of_heap (heap_below HE0.out HBC0.out) 0
  have c1 : wc.cell? ⟨b, 1, none⟩ = some (.bool hit) := cell_of_heap (heap_below HE0.out HBC0.out) 1
  have c2 : wc.cell? ⟨b, 2, none⟩ = some (.int .i64 j) := cell_of_heap (heap_below HE0.out HBC0.out) 2
  have c3 : wc.cell? ⟨b, 3, none⟩ = some (.slice A m p) := cell_of_heap (heap_below HE0.out HBC0.out) 3
  have c4 : wc.cell? ⟨b, 4, none⟩ = some (.pointer (some ⟨q0, 0, none⟩)) := cell_of_heap (heap_below HE0.out HBC0.out) 4
  have c5 : wc.cell? ⟨b, 5, none⟩ = some (.pointer (some ⟨t, 0, none⟩)) := cell_of_heap (heap_below HE0.out HBC0.out) 5
  have c6 : wc.cell? ⟨b, 6, none⟩ = some (.int .i64 ver) := cell_of_heap (heap_below HE0.out HBC0.out) 6
  have cq : wc.cell? ⟨q0, 0, none⟩ = some (.int .i64 es0.length) := by rw [(HQ0.out.below HBC0.out).cell]; rfl
  have ct : wc.cell? ⟨t, 5, none⟩ = some (.int .i64 ver) := cell_of_heap (heap_below HT0.out HBC0.out) 5
  clear hwc
  go_wp2_with (go_at_call 113
               refine (HV.out _ HBC0.out).mono ?_
               rintro y w ⟨rfl, he, hc⟩
               have HCW := Lib.hid ((Chg.of_below (S := fun k => k = b) HBC0.out).trans hc)
               have HE := Lib.hid he
               have HQ := Lib.hid (HQQ.out.chg HCW.out hqb)
               have HT := Lib.hid (HT0.out.chg HCW.out htb)
               clear c0 c1 c2 c3 c4 c5 c6 cq ct he hc
               have HBC := Lib.hid (Below.refl w.heap.size w)
               have c0 : w.cell? ⟨b, 0, none⟩ = some .nilIface := cell_of_heap (heap_below HE.out (Below.refl _ _)) 0
               have c1 : w.cell? ⟨b, 1, none⟩ = some (.bool hit) := cell_of_heap (heap_below HE.out (Below.refl _ _)) 1
               have c2 : w.cell? ⟨b, 2, none⟩ = some (.int .i64 i) := cell_of_heap (heap_below HE.out (Below.refl _ _)) 2
               have c3 : w.cell? ⟨b, 3, none⟩ = some (.slice A m p) := cell_of_heap (heap_below HE.out (Below.refl _ _)) 3
               have c4 : w.cell? ⟨b, 4, none⟩ = some (.pointer (some ⟨q, 0, none⟩)) := cell_of_heap (heap_below HE.out (Below.refl _ _)) 4
               have c5 : w.cell? ⟨b, 5, none⟩ = some (.pointer (some ⟨t, 0, none⟩)) := cell_of_heap (heap_below HE.out (Below.refl _ _)) 5
               have c6 : w.cell? ⟨b, 6, none⟩ = some (.int .i64 ver) := cell_of_heap (heap_below HE.out (Below.refl _ _)) 6
               have f1 : w.frozen? ⟨b, 1, none⟩ = false := free_of_heap (heap_below HE.out (Below.refl _ _)) 1
               have f3 : w.frozen? ⟨b, 3, none⟩ = false := free_of_heap (heap_below HE.out (Below.refl _ _)) 3
               have cq : w.cell? ⟨q, 0, none⟩ = some (.int .i64 es.length) := by rw [(HQ.out.below (Below.refl _ _)).cell]; rfl
               have ct : w.cell? ⟨t, 5, none⟩ = some (.int .i64 ver) := cell_of_heap (heap_below HT.out (Below.refl _ _)) 5
               have e0 : w.cell? ⟨q, 1 + i * 2, none⟩ = some (.slice x.A x.m x.p) := ((HQ.out.below (Below.refl _ _)).cell _).trans (pgL_at XE.cells 2 XE.two es rest [nx, pv] i 0 x _ HI.out (by omega) rfl)
               have e1 : w.cell? ⟨q, 1 + i * 2 + 1, none⟩ = some (.slice x.B x.n x.q) := ((HQ.out.below (Below.refl _ _)).cell _).trans (pgL_at XE.cells 2 XE.two es rest [nx, pv] i 1 x _ HI.out (by omega) rfl)
               have lb : b < w.heap.size := lt_of_heap (heap_below HE.out (Below.refl _ _))
               have lq : q < w.heap.size := (HQ.out.below (Below.refl _ _)).lt
               have lt : t < w.heap.size := lt_of_heap (heap_below HT.out (Below.refl _ _)))
  go_wp2_with fail
  go_region
  obtain ⟨N, hN⟩ : ∃ N, N = w.heap.size := ⟨_, rfl⟩
  obtain ⟨wd, hwd⟩ : ∃ wz, wz = (w.alloc (.cells #[.slice x.A x.m x.p, .slice x.B x.n x.q] 129)).drew := ⟨_, rfl⟩
  rw [← hwd, ← hN]
  have HBD := Lib.hid (show Below w.heap.size w wd by rw [hwd]; exact (HBC.out.alloc HBC.out.size _).drew)
  have hnd : wd.heap[N]? = some (.cells #[.slice x.A x.m x.p, .slice x.B x.n x.q] 129 (0, 0)) := by rw [hwd, hN]; exact heap_new w _
  clear c0 c1 c2 c3 c4 c5 c6 f1 f3 cq ct e0 e1 lb lq lt
  have c0 : wd.cell? ⟨b, 0, none⟩ = some .nilIface := cell_of_heap (heap_below HE.out HBD.out) 0
  have c1 : wd.cell? ⟨b, 1, none⟩ = some (.bool hit) := cell_of_heap (heap_below HE.out HBD.out) 1
  have c2 : wd.cell? ⟨b, 2, none⟩ = some (.int .i64 i) := cell_of_heap (heap_below HE.out HBD.out) 2
  have c3 : wd.cell? ⟨b, 3, none⟩ = some (.slice A m p) := cell_of_heap (heap_below HE.out HBD.out) 3
  have c4 : wd.cell? ⟨b, 4, none⟩ = some (.pointer (some ⟨q, 0, none⟩)) := cell_of_heap (heap_below HE.out HBD.out) 4
  have c5 : wd.cell? ⟨b, 5, none⟩ = some (.pointer (some ⟨t, 0, none⟩)) := cell_of_heap (heap_below HE.out HBD.out) 5
  have c6 : wd.cell? ⟨b, 6, none⟩ = some (.int .i64 ver) := cell_of_heap (heap_below HE.out HBD.out) 6
  have f1 : wd.frozen? ⟨b, 1, none⟩ = false := free_of_heap (heap_below HE.out HBD.out) 1
  have f3 : wd.frozen? ⟨b, 3, none⟩ = false := free_of_heap (heap_below HE.out HBD.out) 3
  have cq : wd.cell? ⟨q, 0, none⟩ = some (.int .i64 es.length) := by rw [(HQ.out.below HBD.out).cell]; rfl
  have ct : wd.cell? ⟨t, 5, none⟩ = some (.int .i64 ver) := cell_of_heap (heap_below HT.out HBD.out) 5
  have e0 : wd.cell? ⟨q, 1 + i * 2, none⟩ = some (.slice x.A x.m x.p) := ((HQ.out.below HBD.out).cell _).trans (pgL_at XE.cells 2 XE.two es rest [nx, pv] i 0 x _ HI.out (by omega) rfl)
  have e1 : wd.cell? ⟨q, 1 + i * 2 + 1, none⟩ = some (.slice x.B x.n x.q) := ((HQ.out.below HBD.out).cell _).trans (pgL_at XE.cells 2 XE.two es rest [nx, pv] i 1 x _ HI.out (by omega) rfl)
  have lb : b < wd.heap.size := lt_of_heap (heap_below HE.out HBD.out)
  have lq : q < wd.heap.size := (HQ.out.below HBD.out).lt
  have lt : t < wd.heap.size := lt_of_heap (heap_below HT.out HBD.out)
  have cn0 := cell_of_heap hnd 0
  have cn1 := cell_of_heap hnd 1
  clear hwd hN hnd
  go_wp2_with fail
  go_region
  go_wp2_with fail
  obtain ⟨w6, hw6⟩ : ∃ w6, w6 = ((wd.setCell ⟨b, 3, none⟩ (.slice x.A x.m x.p)).setCell ⟨b, 1, none⟩ (.bool false)).drew := ⟨_, rfl⟩
  rw [← hw6]
  have hc6 : Chg (fun k => k = b) w w6 := by
    rw [hw6]
    exact (Chg.setCell (Chg.setCell (Chg.of_below (S := fun k => k = b) HBD.out) (p := ⟨b, 3, none⟩) (.inl rfl) _) (p := ⟨b, 1, none⟩) (.inl rfl) _).drew
  have he6 : EnumAt w6 b .nilIface false i (.slice x.A x.m x.p) (ptr q) t ver := by
    unfold EnumAt
    rw [hw6, heap_drew, heap_setCell_at, heap_setCell_at, show wd.heap[b]? = _ from heap_below HE.out HBD.out]
    rfl
  refine (HN0.out w6 (HCW.out.trans hc6) he6).mono ?_
  rintro y w7 ⟨rfl, he7, hc7⟩
  clear hw6
  go_wp2
  go_ret3
  exact ⟨rfl, he7, (HCW.out.trans hc6).trans hc7⟩

set_option maxRecDepth 100000 in
set_option maxHeartbeats 1000000 in
theorem Prev_over (b q0 q j i : Nat) (hit : Bool) (kv : Value) (t : Nat) (ver : Int) (es0 : List XE) (rest0 : List Value) (nx0 pv0 : Value) (es : List XE) (rest : List Value) (nx pv : Value) (x : XE) (c : Int) (fi la r : Value) (w0 : World)
    (he0 : EnumAt w0 b .nilIface hit j kv (ptr q0) t ver) (hq0 : PageAt w0 q0 es0 rest0 nx0 pv0) (hq : PageAt w0 q es rest nx pv) (hj : j = es0.length) (hi : es[i]? = some x) (ht : TreeW G w0 t c fi la r ver) (kv1 : ∃ A m p, kv = .slice A m p) (R : Value) (i' : Nat) (q' : Value)
    (HV : Hid (∀ w', Below w0.heap.size w0 w' → Calls Tryd.prog 113 #[.pointer (some ⟨b, 0, none⟩)] w' fun y w'' => y = .returned .nilIface ∧ EnumAt w'' b .nilIface hit (i : Int) kv (ptr q) t ver ∧ Chg (fun k => k = b) w' w''))
    (HN0 : Hid (∀ w1, Chg (fun k => k = b) w0 w1 → EnumAt w1 b .nilIface false i (.slice x.A x.m x.p) (ptr q) t ver → Calls Tryd.prog 114 #[.pointer (some ⟨b, 0, none⟩)] w1
      fun y w' => y = .returned R ∧ EnumAt w' b R false i' (.slice x.A x.m x.p) q' t ver ∧ Chg (fun k => k = b) w1 w')) :
    Calls Tryd.prog 80 #[.pointer (some ⟨b, 0, none⟩)] w0
      fun y w' => y = .returned (.tuple #[.slice x.A x.m x.p, .slice x.B x.n x.q, .nilIface]) ∧ EnumAt w' b R false i' (.slice x.A x.m x.p) q' t ver ∧ Chg (fun k => k = b) w0 w' := by
  have hle := hq.le
  have hle0 := hq0.le
  have hin : i < es.length := (List.getElem?_eq_some_iff.1 hi).1
  have hqb : ¬ q = b := fun e => tag_ne he0 hq.heap (by decide) e.symm
  have htb : ¬ t = b := fun e => tag_ne he0 ht (by decide) e.symm
  obtain ⟨A, m, p, rfl⟩ := kv1
  have HE0 := Lib.hid he0
  have HQ0 := Lib.hid hq0
  have HQQ := Lib.hid hq
  have HT0 := Lib.hid ht
  have HI := Lib.hid hi
  have hg : ((es0.length : Int) ≤ j) = True := by simp; omega
  have hi1 : (i : Int) < 129 := by omega
  have hi2 : (0 : Int) ≤ i := by omega
  have hvv : (ver != ver) = false := by simp
  clear he0 hq0 hq ht hi hj
  have c0 : w0.cell? ⟨b, 0, none⟩ = some .nilIface := cell_of_heap (heap_below HE0.out (Below.refl _ _)) 0
  have c1 : w0.cell? ⟨b, 1, none⟩ = some (.bool hit) := cell_of_heap (heap_below HE0.out (Below.refl _ _)) 1
  have c2 : w0.cell? ⟨b, 2, none⟩ = some (.int .i64 j) := cell_of_heap (heap_below HE0.out (Below.refl _ _)) 2
  have c3 : w0.cell? ⟨b, 3, none⟩ = some (.slice A m p) := cell_of_heap (heap_below HE0.out (Below.refl _ _)) 3
  have c4 : w0.cell? ⟨b, 4, none⟩ = some (.pointer (some ⟨q0, 0, none⟩)) := cell_of_heap (heap_below HE0.out (Below.refl _ _)) 4
  have c5 : w0.cell? ⟨b, 5, none⟩ = some (.pointer (some ⟨t, 0, none⟩)) := cell_of_heap (heap_below HE0.out (Below.refl _ _)) 5
  have c6 : w0.cell? ⟨b, 6, none⟩ = some (.int .i64 ver) := cell_of_heap (heap_below HE0.out (Below.refl _ _)) 6
  have cq : w0.cell? ⟨q0, 0, none⟩ = some (.int .i64 es0.length) := by rw [(HQ0.out.below (Below.refl _ _)).cell]; rfl
  have ct : w0.cell? ⟨t, 5, none⟩ = some (.int .i64 ver) := cell_of_heap (heap_below HT0.out (Below.refl _ _)) 5
  go_enter Tryd.func80, Tryd.ntmps80
  go_wp2_with fail
  go_still_tail 11, (by kernel_rfl)
  obtain ⟨wb, hwb⟩ : ∃ wz, wz = w0.drew := ⟨_, rfl⟩
  change wpList _ _ _ _ _ w0.drew
  rw [← hwb]
  have HBB0 := Lib.hid (show Below w0.heap.size w0 wb by rw [hwb]; exact (Below.refl _ _).drew)
  clear c0 c1 c2 c3 c4 c5 c6 cq ct
  have c0 : wb.cell? ⟨b, 0, none⟩ = some .nilIface := cell_of_heap (heap_below HE0.out HBB0.out) 0
  have c1 : wb.cell? ⟨b, 1, none⟩ = some (.bool hit) := cell_of_heap (heap_below HE0.out HBB0.out) 1
  have c2 : wb.cell? ⟨b, 2, none⟩ = some (.int .i64 j) := cell_of_heap (heap_below HE0.out HBB0.out) 2
  have c3 : wb.cell? ⟨b, 3, none⟩ = some (.slice A m p) := cell_of_heap (heap_below HE0.out HBB0.out) 3
  have c4 : wb.cell? ⟨b, 4, none⟩ = some (.pointer (some ⟨q0, 0, none⟩)) := cell_of_heap (heap_below HE0.out HBB0.out) 4
  have c5 : wb.cell? ⟨b, 5, none⟩ = some (.pointer (some ⟨t, 0, none⟩)) := cell_of_heap (heap_below HE0.out HBB0.out) 5
  have c6 : wb.cell? ⟨b, 6, none⟩ = some (.int .i64 ver) := cell_of_heap (heap_below HE0.out HBB0.out) 6
  have cq : wb.cell? ⟨q0, 0, none⟩ = some (.int .i64 es0.length) := by rw [(HQ0.out.below HBB0.out).cell]; rfl
  have ct : wb.cell? ⟨t, 5, none⟩ = some (.int .i64 ver) := cell_of_heap (heap_below HT0.out HBB0.out) 5
  clear hwb
  go_wp2_with fail
  go_still_tail 11, (by kernel_rfl)
  obtain ⟨wc, hwc⟩ : ∃ wz, wz = wb.drew := ⟨_, rfl⟩
  change wpList _ _ _ _ _ wb.drew
  rw [← hwc]
  have HBC0 := Lib.hid (show Below w0.heap.size w0 wc by rw [hwc]; exact HBB0.out.drew)
  clear c0 c1 c2 c3 c4 c5 c6 cq ct
  have c0 : wc.cell? ⟨b, 0, none⟩ = some .nilIface := cell_of_heap (heap_below HE0.out HBC0.out) 0
  have c1 : wc.cell? ⟨b, 1, none⟩ = some (.bool hit) := cell_of_heap (heap_below HE0.out HBC0.out) 1
  have c2 : wc.cell? ⟨b, 2, none⟩ = some (.int .i64 j) := cell_of_heap (heap_below HE0.out HBC0.out) 2
  have c3 : wc.cell? ⟨b, 3, none⟩ = some (.slice A m p) := cell_of_heap (heap_below HE0.out HBC0.out) 3
  have c4 : wc.cell? ⟨b, 4, none⟩ = some (.pointer (some ⟨q0, 0, none⟩)) := cell_of_heap (heap_below HE0.out HBC0.out) 4
  have c5 : wc.cell? ⟨b, 5, none⟩ = some (.pointer (some ⟨t, 0, none⟩)) := cell_of_heap (heap_below HE0.out HBC0.out) 5
  have c6 : wc.cell? ⟨b, 6, none⟩ = some (.int .i64 ver) := cell_of_heap (heap_below HE0.out HBC0.out) 6
  have cq : wc.cell? ⟨q0, 0, none⟩ = some (.int .i64 es0.length) := by rw [(HQ0.out.below HBC0.out).cell]; rfl
  have ct : wc.cell? ⟨t, 5, none⟩ = some (.int .i64 ver) := cell_of_heap (heap_below HT0.out HBC0.out) 5
  clear hwc
  go_wp2_with (go_at_call 113
               refine (HV.out _ HBC0.out).mono ?_
               rintro y w ⟨rfl, he, hc⟩
               have HCW := Lib.hid ((Chg.of_below (S := fun k => k = b) HBC0.out).trans hc)
               have HE := Lib.hid he
               have HQ := Lib.hid (HQQ.out.chg HCW.out hqb)
               have HT := Lib.hid (HT0.out.chg HCW.out htb)
               clear c0 c1 c2 c3 c4 c5 c6 cq ct he hc
               have HBC := Lib.hid (Below.refl w.heap.size w)
               have c0 : w.cell? ⟨b, 0, none⟩ = some .nilIface := cell_of_heap (heap_below HE.out (Below.refl _ _)) 0
               have c1 : w.cell? ⟨b, 1, none⟩ = some (.bool hit) := cell_of_heap (heap_below HE.out (Below.refl _ _)) 1
               have c2 : w.cell? ⟨b, 2, none⟩ = some (.int .i64 i) := cell_of_heap (heap_below HE.out (Below.refl _ _)) 2
               have c3 : w.cell? ⟨b, 3, none⟩ = some (.slice A m p) := cell_of_heap (heap_below HE.out (Below.refl _ _)) 3
               have c4 : w.cell? ⟨b, 4, none⟩ = some (.pointer (some ⟨q, 0, none⟩)) := cell_of_heap (heap_below HE.out (Below.refl _ _)) 4
               have c5 : w.cell? ⟨b, 5, none⟩ = some (.pointer (some ⟨t, 0, none⟩)) := cell_of_heap (heap_below HE.out (Below.refl _ _)) 5
               have c6 : w.cell? ⟨b, 6, none⟩ = some (.int .i64 ver) := cell_of_heap (heap_below HE.out (Below.refl _ _)) 6
               have f1 : w.frozen? ⟨b, 1, none⟩ = false := free_of_heap (heap_below HE.out (Below.refl _ _)) 1
               have f3 : w.frozen? ⟨b, 3, none⟩ = false := free_of_heap (heap_below HE.out (Below.refl _ _)) 3
               have cq : w.cell? ⟨q, 0, none⟩ = some (.int .i64 es.length) := by rw [(HQ.out.below (Below.refl _ _)).cell]; rfl
               have ct : w.cell? ⟨t, 5, none⟩ = some (.int .i64 ver) := cell_of_heap (heap_below HT.out (Below.refl _ _)) 5
               have e0 : w.cell? ⟨q, 1 + i * 2, none⟩ = some (.slice x.A x.m x.p) := ((HQ.out.below (Below.refl _ _)).cell _).trans (pgL_at XE.cells 2 XE.two es rest [nx, pv] i 0 x _ HI.out (by omega) rfl)
               have e1 : w.cell? ⟨q, 1 + i * 2 + 1, none⟩ = some (.slice x.B x.n x.q) := ((HQ.out.below (Below.refl _ _)).cell _).trans (pgL_at XE.cells 2 XE.two es rest [nx, pv] i 1 x _ HI.out (by omega) rfl)
               have lb : b < w.heap.size := lt_of_heap (heap_below HE.out (Below.refl _ _))
               have lq : q < w.heap.size := (HQ.out.below (Below.refl _ _)).lt
               have lt : t < w.heap.size := lt_of_heap (heap_below HT.out (Below.refl _ _)))
  go_wp2_with fail
  go_region
  obtain ⟨N, hN⟩ : ∃ N, N = w.heap.size := ⟨_, rfl⟩
  obtain ⟨wd, hwd⟩ : ∃ wz, wz = (w.alloc (.cells #[.slice x.A x.m x.p, .slice x.B x.n x.q] 129)).drew := ⟨_, rfl⟩
  rw [← hwd, ← hN]
  have HBD := Lib.hid (show Below w.heap.size w wd by rw [hwd]; exact (HBC.out.alloc HBC.out.size _).drew)
  have hnd : wd.heap[N]? = some (.cells #[.slice x.A x.m x.p, .slice x.B x.n x.q] 129 (0, 0)) := by rw [hwd, hN]; exact heap_new w _
  clear c0 c1 c2 c3 c4 c5 c6 f1 f3 cq ct e0 e1 lb lq lt
  have c0 : wd.cell? ⟨b, 0, none⟩ = some .nilIface := cell_of_heap (heap_below HE.out HBD.out) 0
  have c1 : wd.cell? ⟨b, 1, none⟩ = some (.bool hit) := cell_of_heap (heap_below HE.out HBD.out) 1
  have c2 : wd.cell? ⟨b, 2, none⟩ = some (.int .i64 i) := cell_of_heap (heap_below HE.out HBD.out) 2
  have c3 : wd.cell? ⟨b, 3, none⟩ = some (.slice A m p) := cell_of_heap (heap_below HE.out HBD.out) 3
  have c4 : wd.cell? ⟨b, 4, none⟩ = some (.pointer (some ⟨q, 0, none⟩)) := cell_of_heap (heap_below HE.out HBD.out) 4
  have c5 : wd.cell? ⟨b, 5, none⟩ = some (.pointer (some ⟨t, 0, none⟩)) := cell_of_heap (heap_below HE.out HBD.out) 5
  have c6 : wd.cell? ⟨b, 6, none⟩ = some (.int .i64 ver) := cell_of_heap (heap_below HE.out HBD.out) 6
  have f1 : wd.frozen? ⟨b, 1, none⟩ = false := free_of_heap (heap_below HE.out HBD.out) 1
  have f3 : wd.frozen? ⟨b, 3, none⟩ = false := free_of_heap (heap_below HE.out HBD.out) 3
  have cq : wd.cell? ⟨q, 0, none⟩ = some (.int .i64 es.length) := by rw [(HQ.out.below HBD.out).cell]; rfl
  have ct : wd.cell? ⟨t, 5, none⟩ = some (.int .i64 ver) := cell_of_heap (heap_below HT.out HBD.out) 5
  have e0 : wd.cell? ⟨q, 1 + i * 2, none⟩ = some (.slice x.A x.m x.p) := ((HQ.out.below HBD.out).cell _).trans (pgL_at XE.cells 2 XE.two es rest [nx, pv] i 0 x _ HI.out (by omega) rfl)
  have e1 : wd.cell? ⟨q, 1 + i * 2 + 1, none⟩ = some (.slice x.B x.n x.q) := ((HQ.out.below HBD.out).cell _).trans (pgL_at XE.cells 2 XE.two es rest [nx, pv] i 1 x _ HI.out (by omega) rfl)
  have lb : b < wd.heap.size := lt_of_heap (heap_below HE.out HBD.out)
  have lq : q < wd.heap.size := (HQ.out.below HBD.out).lt
  have lt : t < wd.heap.size := lt_of_heap (heap_below HT.out HBD.out)
  have cn0 := cell_of_heap hnd 0
  have cn1 := cell_of_heap hnd 1
  clear hwd hN hnd
  go_wp2_with fail
  go_region
  go_wp2_with fail
  obtain ⟨w6, hw6⟩ : ∃ w6, w6 = ((wd.setCell ⟨b, 3, none⟩ (.slice x.A x.m x.p)).setCell ⟨b, 1, none⟩ (.bool false)).drew := ⟨_, rfl⟩
  rw [← hw6]
  have hc6 : Chg (fun k => k = b) w w6 := by
    rw [hw6]
    exact (Chg.setCell (Chg.setCell (Chg.of_below (S := fun k => k = b) HBD.out) (p := ⟨b, 3, none⟩) (.inl rfl) _) (p := ⟨b, 1, none⟩) (.inl rfl) _).drew
  have he6 : EnumAt w6 b .nilIface false i (.slice x.A x.m x.p) (ptr q) t ver := by
    unfold EnumAt
    rw [hw6, heap_drew, heap_setCell_at, heap_setCell_at, show wd.heap[b]? = _ from heap_below HE.out HBD.out]
    rfl
  refine (HN0.out w6 (HCW.out.trans hc6) he6).mono ?_
  rintro y w7 ⟨rfl, he7, hc7⟩
  clear hw6
  go_wp2
  go_ret3
  exact ⟨rfl, he7, (HCW.out.trans hc6).trans hc7⟩

set_option maxRecDepth 100000 in
set_option maxHeartbeats 1000000 in
/-- Behind the last entry of all. -/
theorem Next_off (b q0 j : Nat) (hit : Bool) (kv : Value) (t : Nat) (ver : Int) (es0 : List XE) (rest0 : List Value) (nx0 pv0 : Value) (c : Int) (fi la r E : Value) (w0 : World)
    (he0 : EnumAt w0 b .nilIface hit j kv (ptr q0) t ver) (hq0 : PageAt w0 q0 es0 rest0 nx0 pv0) (hj : j = es0.length) (ht : TreeW G w0 t c fi la r ver) (kv1 : ∃ A m p, kv = .slice A m p) (hE : ∃ a, E = .iface 246 (.pointer (some a)))
    (HV : Hid (∀ w', Below w0.heap.size w0 w' → Calls Tryd.prog 113 #[.pointer (some ⟨b, 0, none⟩)] w' fun y w'' => y = .returned E ∧ Chg (fun k => k = b) w' w'')) :
    Calls Tryd.prog 79 #[.pointer (some ⟨b, 0, none⟩)] w0 (OverP E b w0) := by
  have hle0 := hq0.le
  obtain ⟨A, m, p, rfl⟩ := kv1
  obtain ⟨aE, rfl⟩ := hE
  have HE0 := Lib.hid he0
  have HQ0 := Lib.hid hq0
  have HT0 := Lib.hid ht
  have hg : ((es0.length : Int) ≤ j) = True := by simp; omega
  have hvv : (ver != ver) = false := by simp
  clear he0 hq0 ht hj
  have c0 : w0.cell? ⟨b, 0, none⟩ = some .nilIface := cell_of_heap (heap_below HE0.out (Below.refl _ _)) 0
  have c1 : w0.cell? ⟨b, 1, none⟩ = some (.bool hit) := cell_of_heap (heap_below HE0.out (Below.refl _ _)) 1
  have c2 : w0.cell? ⟨b, 2, none⟩ = some (.int .i64 j) := cell_of_heap (heap_below HE0.out (Below.refl _ _)) 2
  have c3 : w0.cell? ⟨b, 3, none⟩ = some (.slice A m p) := cell_of_heap (heap_below HE0.out (Below.refl _ _)) 3
  have c4 : w0.cell? ⟨b, 4, none⟩ = some (.pointer (some ⟨q0, 0, none⟩)) := cell_of_heap (heap_below HE0.out (Below.refl _ _)) 4
  have c5 : w0.cell? ⟨b, 5, none⟩ = some (.pointer (some ⟨t, 0, none⟩)) := cell_of_heap (heap_below HE0.out (Below.refl _ _)) 5
  have c6 : w0.cell? ⟨b, 6, none⟩ = some (.int .i64 ver) := cell_of_heap (heap_below HE0.out (Below.refl _ _)) 6
  have cq : w0.cell? ⟨q0, 0, none⟩ = some (.int .i64 es0.length) := by rw [(HQ0.out.below (Below.refl _ _)).cell]; rfl
  have ct : w0.cell? ⟨t, 5, none⟩ = some (.int .i64 ver) := cell_of_heap (heap_below HT0.out (Below.refl _ _)) 5
  go_enter Tryd.func79, Tryd.ntmps79
  go_wp2_with fail
  go_still_tail 11, (by kernel_rfl)
  obtain ⟨wb, hwb⟩ : ∃ wz, wz = w0.drew := ⟨_, rfl⟩
  change wpList _ _ _ _ _ w0.drew
  rw [← hwb]
  have HBB0 := Lib.hid (show Below w0.heap.size w0 wb by rw [hwb]; exact (Below.refl _ _).drew)
  clear c0 c1 c2 c3 c4 c5 c6 cq ct
  have c0 : wb.cell? ⟨b, 0, none⟩ = some .nilIface := cell_of_heap (heap_below HE0.out HBB0.out) 0
  have c1 : wb.cell? ⟨b, 1, none⟩ = some (.bool hit) := cell_of_heap (heap_below HE0.out HBB0.out) 1
  have c2 : wb.cell? ⟨b, 2, none⟩ = some (.int .i64 j) := cell_of_heap (heap_below HE0.out HBB0.out) 2
  have c3 : wb.cell? ⟨b, 3, none⟩ = some (.slice A m p) := cell_of_heap (heap_below HE0.out HBB0.out) 3
  have c4 : wb.cell? ⟨b, 4, none⟩ = some (.pointer (some ⟨q0, 0, none⟩)) := cell_of_heap (heap_below HE0.out HBB0.out) 4
  have c5 : wb.cell? ⟨b, 5, none⟩ = some (.pointer (some ⟨t, 0, none⟩)) := cell_of_heap (heap_below HE0.out HBB0.out) 5
  have c6 : wb.cell? ⟨b, 6, none⟩ = some (.int .i64 ver) := cell_of_heap (heap_below HE0.out HBB0.out) 6
  have cq : wb.cell? ⟨q0, 0, none⟩ = some (.int .i64 es0.length) := by rw [(HQ0.out.below HBB0.out).cell]; rfl
  have ct : wb.cell? ⟨t, 5, none⟩ = some (.int .i64 ver) := cell_of_heap (heap_below HT0.out HBB0.out) 5
  clear hwb
  go_wp2_with fail
  go_still_tail 11, (by kernel_rfl)
  obtain ⟨wc, hwc⟩ : ∃ wz, wz = wb.drew := ⟨_, rfl⟩
  change wpList _ _ _ _ _ wb.drew
  rw [← hwc]
  have HBC0 := Lib.hid (show Below w0.heap.size w0 wc by rw [hwc]; exact HBB0.out.drew)
  clear c0 c1 c2 c3 c4 c5 c6 cq ct
  have c0 : wc.cell? ⟨b, 0, none⟩ = some .nilIface := cell_of_heap (heap_below HE0.out HBC0.out) 0
  have c1 : wc.cell? ⟨b, 1, none⟩ = some (.bool hit) := cell_of_heap (heap_below HE0.out HBC0.out) 1
  have c2 : wc.cell? ⟨b, 2, none⟩ = some (.int .i64 j) := cell_of_heap (heap_below HE0.out HBC0.out) 2
  have c3 : wc.cell? ⟨b, 3, none⟩ = some (.slice A m p) := cell_of_heap (heap_below HE0.out HBC0.out) 3
  have c4 : wc.cell? ⟨b, 4, none⟩ = some (.pointer (some ⟨q0, 0, none⟩)) := cell_of_heap (heap_below HE0.out HBC0.out) 4
  have c5 : wc.cell? ⟨b, 5, none⟩ = some (.pointer (some ⟨t, 0, none⟩)) := cell_of_heap (heap_below HE0.out HBC0.out) 5
  have c6 : wc.cell? ⟨b, 6, none⟩ = some (.int .i64 ver) := cell_of_heap (heap_below HE0.out HBC0.out) 6
  have cq : wc.cell? ⟨q0, 0, none⟩ = some (.int .i64 es0.length) := by rw [(HQ0.out.below HBC0.out).cell]; rfl
  have ct : wc.cell? ⟨t, 5, none⟩ = some (.int .i64 ver) := cell_of_heap (heap_below HT0.out HBC0.out) 5
  clear hwc
  go_wp2_with (go_at_call 113; refine (HV.out _ HBC0.out).mono ?_; rintro y w ⟨rfl, hc⟩)
  go_ret3
  exact ⟨rfl, (Chg.of_below (S := fun k => k = b) HBC0.out).trans hc⟩

set_option maxRecDepth 100000 in
set_option maxHeartbeats 1000000 in
theorem Next_err {b t : Nat} {ver : Int} {E : Value} {i : Int} {hit : Bool} {kv : Value} {w : World} (hE : ∃ a, E = .iface 246 (.pointer (some a))) (h : EnumAt w b E hit i kv (.pointer none) t ver) :
    Calls Tryd.prog 79 #[.pointer (some ⟨b, 0, none⟩)] w (OverP E b w) := by
  obtain ⟨a, rfl⟩ := hE
  have c0 := cell_of_heap h 0
  clear h
  go_enter Tryd.func79, Tryd.ntmps79
  go_wp2
  go_ret3
  exact ⟨rfl, Chg.refl _ _⟩

set_option maxRecDepth 100000 in
set_option maxHeartbeats 1000000 in
/-- Of an empty tree. -/
theorem Next_void {b t : Nat} {ver : Int} {E : Value} {i : Int} {hit : Bool} {A : Option Addr} {m p : Nat} {c : Int} {fi la r : Value} {w : World} (hE : HasEof w E) (h : EnumAt w b .nilIface hit i (.slice A m p) (.pointer none) t ver) (ht : TreeW G w t c fi la r ver) (hbE : ¬ 0 = b) :
    Calls Tryd.prog 79 #[.pointer (some ⟨b, 0, none⟩)] w (OverP E b w) := by
  obtain ⟨gl, gc, a, rfl⟩ := hE
  have c0 : w.cell? ⟨b, 0, none⟩ = some .nilIface := cell_of_heap h 0
  have c1 : w.cell? ⟨b, 1, none⟩ = some (.bool hit) := cell_of_heap h 1
  have c3 : w.cell? ⟨b, 3, none⟩ = some (.slice A m p) := cell_of_heap h 3
  have c4 : w.cell? ⟨b, 4, none⟩ = some (.pointer none) := cell_of_heap h 4
  have c5 : w.cell? ⟨b, 5, none⟩ = some (.pointer (some ⟨t, 0, none⟩)) := cell_of_heap h 5
  have c6 : w.cell? ⟨b, 6, none⟩ = some (.int .i64 ver) := cell_of_heap h 6
  have f0 : w.frozen? ⟨b, 0, none⟩ = false := free_of_heap h 0
  have ct : w.cell? ⟨t, 5, none⟩ = some (.int .i64 ver) := cell_of_heap ht 5
  have hbg' : ¬ b = 0 := fun h => hbE h.symm
  have hvv : (ver != ver) = false := by simp
  clear h ht
  go_enter Tryd.func79, Tryd.ntmps79
  go_wp2
  go_still_tail 11, (by kernel_rfl)
  change wpList _ _ _ _ _ w.drew
  go_wp2
  go_ret3
  exact ⟨rfl, Chg.setCell (Chg.refl (fun k => k = b) w).drew (p := ⟨b, 0, none⟩) (.inl rfl) _⟩

set_option maxRecDepth 100000 in
set_option maxHeartbeats 1000000 in
/-- Behind the last entry of all. -/
theorem Prev_off (b q0 j : Nat) (hit : Bool) (kv : Value) (t : Nat) (ver : Int) (es0 : List XE) (rest0 : List Value) (nx0 pv0 : Value) (c : Int) (fi la r E : Value) (w0 : World)
    (he0 : EnumAt w0 b .nilIface hit j kv (ptr q0) t ver) (hq0 : PageAt w0 q0 es0 rest0 nx0 pv0) (hj : j = es0.length) (ht : TreeW G w0 t c fi la r ver) (kv1 : ∃ A m p, kv = .slice A m p) (hE : ∃ a, E = .iface 246 (.pointer (some a)))
    (HV : Hid (∀ w', Below w0.heap.size w0 w' → Calls Tryd.prog 113 #[.pointer (some ⟨b, 0, none⟩)] w' fun y w'' => y = .returned E ∧ Chg (fun k => k = b) w' w'')) :
    Calls Tryd.prog 80 #[.pointer (some ⟨b, 0, none⟩)] w0 (OverP E b w0) := by
  have hle0 := hq0.le
  obtain ⟨A, m, p, rfl⟩ := kv1
  obtain ⟨aE, rfl⟩ := hE
  have HE0 := Lib.hid he0
  have HQ0 := Lib.hid hq0
  have HT0 := Lib.hid ht
  have hg : ((es0.length : Int) ≤ j) = True := by simp; omega
  have hvv : (ver != ver) = false := by simp
  clear he0 hq0 ht hj
  have c0 : w0.cell? ⟨b, 0, none⟩ = some .nilIface := cell_of_heap (heap_below HE0.out (Below.refl _ _)) 0
  have c1 : w0.cell? ⟨b, 1, none⟩ = some (.bool hit) := cell_of_heap (heap_below HE0.out (Below.refl _ _)) 1
  have c2 : w0.cell? ⟨b, 2, none⟩ = some (.int .i64 j) := cell_of_heap (heap_below HE0.out (Below.refl _ _)) 2
  have c3 : w0.cell? ⟨b, 3, none⟩ = some (.slice A m p) := cell_of_heap (heap_below HE0.out (Below.refl _ _)) 3
  have c4 : w0.cell? ⟨b, 4, none⟩ = some (.pointer (some ⟨q0, 0, none⟩)) := cell_of_heap (heap_below HE0.out (Below.refl _ _)) 4
  have c5 : w0.cell? ⟨b, 5, none⟩ = some (.pointer (some ⟨t, 0, none⟩)) := cell_of_heap (heap_below HE0.out (Below.refl _ _)) 5
  have c6 : w0.cell? ⟨b, 6, none⟩ = some (.int .i64 ver) := cell_of_heap (heap_below HE0.out (Below.refl _ _)) 6
  have cq : w0.cell? ⟨q0, 0, none⟩ = some (.int .i64 es0.length) := by rw [(HQ0.out.below (Below.refl _ _)).cell]; rfl
  have ct : w0.cell? ⟨t, 5, none⟩ = some (.int .i64 ver) := cell_of_heap (heap_below HT0.out (Below.refl _ _)) 5
  go_enter Tryd.func80, Tryd.ntmps80
  go_wp2_with fail
  go_still_tail 11, (by kernel_rfl)
  obtain ⟨wb, hwb⟩ : ∃ wz, wz = w0.drew := ⟨_, rfl⟩
  change wpList _ _ _ _ _ w0.drew
  rw [← hwb]
  have HBB0 := Lib.hid (show Below w0.heap.size w0 wb by rw [hwb]; exact (Below.refl _ _).drew)
  clear c0 c1 c2 c3 c4 c5 c6 cq ct
  have c0 : wb.cell? ⟨b, 0, none⟩ = some .nilIface := cell_of_heap (heap_below HE0.out HBB0.out) 0
  have c1 : wb.cell? ⟨b, 1, none⟩ = some (.bool hit) := cell_of_heap (heap_below HE0.out HBB0.out) 1
  have c2 : wb.cell? ⟨b, 2, none⟩ = some (.int .i64 j) := cell_of_heap (heap_below HE0.out HBB0.out) 2
  have c3 : wb.cell? ⟨b, 3, none⟩ = some (.slice A m p) := cell_of_heap (heap_below HE0.out HBB0.out) 3
  have c4 : wb.cell? ⟨b, 4, none⟩ = some (.pointer (some ⟨q0, 0, none⟩)) := cell_of_heap (heap_below HE0.out HBB0.out) 4
  have c5 : wb.cell? ⟨b, 5, none⟩ = some (.pointer (some ⟨t, 0, none⟩)) := cell_of_heap (heap_below HE0.out HBB0.out) 5
  have c6 : wb.cell? ⟨b, 6, none⟩ = some (.int .i64 ver) := cell_of_heap (heap_below HE0.out HBB0.out) 6
  have cq : wb.cell? ⟨q0, 0, none⟩ = some (.int .i64 es0.length) := by rw [(HQ0.out.below HBB0.out).cell]; rfl
  have ct : wb.cell? ⟨t, 5, none⟩ = some (.int .i64 ver) := cell_of_heap (heap_below HT0.out HBB0.out) 5
  clear hwb
  go_wp2_with fail
  go_still_tail 11, (by kernel_rfl)
  obtain ⟨wc, hwc⟩ : ∃ wz, wz = wb.drew := ⟨_, rfl⟩
  change wpList _ _ _ _ _ wb.drew
  rw [← hwc]
  have HBC0 := Lib.hid (show Below w0.heap.size w0 wc by rw [hwc]; exact HBB0.out.drew)
  clear c0 c1 c2 c3 c4 c5 c6 cq ct
  have c0 : wc.cell? ⟨b, 0, none⟩ = some .nilIface := cell_of_heap (heap_below HE0.out HBC0.out) 0
  have c1 : wc.cell? ⟨b, 1, none⟩ = some (.bool hit) := cell_of_heap (heap_below HE0.out HBC0.out) 1
  have c2 : wc.cell? ⟨b, 2, none⟩ = some (.int .i64 j) := cell_of_heap (heap_below HE0.out HBC0.out) 2
  have c3 : wc.cell? ⟨b, 3, none⟩ = some (.slice A m p) := cell_of_heap (heap_below HE0.out HBC0.out) 3
  have c4 : wc.cell? ⟨b, 4, none⟩ = some (.pointer (some ⟨q0, 0, none⟩)) := cell_of_heap (heap_below HE0.out HBC0.out) 4
  have c5 : wc.cell? ⟨b, 5, none⟩ = some (.pointer (some ⟨t, 0, none⟩)) := cell_of_heap (heap_below HE0.out HBC0.out) 5
  have c6 : wc.cell? ⟨b, 6, none⟩ = some (.int .i64 ver) := cell_of_heap (heap_below HE0.out HBC0.out) 6
  have cq : wc.cell? ⟨q0, 0, none⟩ = some (.int .i64 es0.length) := by rw [(HQ0.out.below HBC0.out).cell]; rfl
  have ct : wc.cell? ⟨t, 5, none⟩ = some (.int .i64 ver) := cell_of_heap (heap_below HT0.out HBC0.out) 5
  clear hwc
  go_wp2_with (go_at_call 113; refine (HV.out _ HBC0.out).mono ?_; rintro y w ⟨rfl, hc⟩)
  go_ret3
  exact ⟨rfl, (Chg.of_below (S := fun k => k = b) HBC0.out).trans hc⟩

set_option maxRecDepth 100000 in
set_option maxHeartbeats 1000000 in
theorem Prev_err {b t : Nat} {ver : Int} {E : Value} {i : Int} {hit : Bool} {kv : Value} {w : World} (hE : ∃ a, E = .iface 246 (.pointer (some a))) (h : EnumAt w b E hit i kv (.pointer none) t ver) :
    Calls Tryd.prog 80 #[.pointer (some ⟨b, 0, none⟩)] w (OverP E b w) := by
  obtain ⟨a, rfl⟩ := hE
  have c0 := cell_of_heap h 0
  clear h
  go_enter Tryd.func80, Tryd.ntmps80
  go_wp2
  go_ret3
  exact ⟨rfl, Chg.refl _ _⟩

set_option maxRecDepth 100000 in
set_option maxHeartbeats 1000000 in
/-- Of an empty tree. -/
theorem Prev_void {b t : Nat} {ver : Int} {E : Value} {i : Int} {hit : Bool} {A : Option Addr} {m p : Nat} {c : Int} {fi la r : Value} {w : World} (hE : HasEof w E) (h : EnumAt w b .nilIface hit i (.slice A m p) (.pointer none) t ver) (ht : TreeW G w t c fi la r ver) (hbE : ¬ 0 = b) :
    Calls Tryd.prog 80 #[.pointer (some ⟨b, 0, none⟩)] w (OverP E b w) := by
  obtain ⟨gl, gc, a, rfl⟩ := hE
  have c0 : w.cell? ⟨b, 0, none⟩ = some .nilIface := cell_of_heap h 0
  have c1 : w.cell? ⟨b, 1, none⟩ = some (.bool hit) := cell_of_heap h 1
  have c3 : w.cell? ⟨b, 3, none⟩ = some (.slice A m p) := cell_of_heap h 3
  have c4 : w.cell? ⟨b, 4, none⟩ = some (.pointer none) := cell_of_heap h 4
  have c5 : w.cell? ⟨b, 5, none⟩ = some (.pointer (some ⟨t, 0, none⟩)) := cell_of_heap h 5
  have c6 : w.cell? ⟨b, 6, none⟩ = some (.int .i64 ver) := cell_of_heap h 6
  have f0 : w.frozen? ⟨b, 0, none⟩ = false := free_of_heap h 0
  have ct : w.cell? ⟨t, 5, none⟩ = some (.int .i64 ver) := cell_of_heap ht 5
  have hbg' : ¬ b = 0 := fun h => hbE h.symm
  have hvv : (ver != ver) = false := by simp
  clear h ht
  go_enter Tryd.func80, Tryd.ntmps80
  go_wp2
  go_still_tail 11, (by kernel_rfl)
  change wpList _ _ _ _ _ w.drew
  go_wp2
  go_ret3
  exact ⟨rfl, Chg.setCell (Chg.refl (fun k => k = b) w).drew (p := ⟨b, 0, none⟩) (.inl rfl) _⟩

end Go.Proofs.YtffgkocokkhahaaDoor
