/-
  Walking the tree: (*xenumerator).Next, Prev at a place. PRINTED BY wip/tpl/gen_xh.py.
-/
import Derived.Test.YtffgkocokkhahaaGreatDoorXe
namespace Go.Proofs.YtffgkocokkhahaaGreatDoor
open Go.RowKit

set_option maxRecDepth 100000 in
set_option maxHeartbeats 1000000 in
theorem Next_at (b q i : Nat) (hit : Bool) (kv : Value) (kh : Int) (t : Nat) (ver : Int) (uni : Bool) (es : List XE) (rest : List Value) (nx pv : Value) (x : XE) (c : Int) (fi la r : Value) (w : World)
    (he : EnumAt w b .nilIface hit i kv kh (ptr q) t ver uni) (hq : PageAt w q es rest nx pv) (hi : es[i]? = some x) (ht : TreeW w t c fi la r ver) (kv1 : ∃ A m p, kv = .slice A m p) (R : Value) (i' : Nat) (q' : Value)
    (HN : Hid (∀ w1, Chg (fun k => k = b) w w1 → EnumAt w1 b .nilIface false i (.slice x.A x.m x.p) x.h (ptr q) t ver uni → Calls Tryz.prog 149 #[.pointer (some ⟨b, 0, none⟩)] w1
      fun y w' => y = .returned R ∧ EnumAt w' b R false i' (.slice x.A x.m x.p) x.h q' t ver uni ∧ Chg (fun k => k = b) w1 w')) :
    Calls Tryz.prog 147 #[.pointer (some ⟨b, 0, none⟩)] w
      fun y w' => y = .returned (.tuple #[.agg #[.slice x.A x.m x.p, .int .i64 x.h], .int .i64 x.n, .nilIface]) ∧ EnumAt w' b R false i' (.slice x.A x.m x.p) x.h q' t ver uni ∧ Chg (fun k => k = b) w w' := by
  have hle := hq.le
  have hin : i < es.length := (List.getElem?_eq_some_iff.1 hi).1
  obtain ⟨A, m, p, rfl⟩ := kv1
  have HE := Lib.hid he
  have HQ := Lib.hid hq
  have HT := Lib.hid ht
  have HI := Lib.hid hi
  have hg : ((es.length : Int) ≤ i) = False := by simp; omega
  have hi1 : (i : Int) < 129 := by omega
  have hi2 : (0 : Int) ≤ i := by omega
  have hvv : (ver != ver) = false := by simp
  have hcc : (w.alloc (.cells #[.slice none 0 0, .int .i64 0] 136)).heap[w.heap.size]? = some (.cells #[.slice none 0 0, .int .i64 0] 136 (0, 0)) := heap_new w _
  have HKA := Lib.hid hcc
  clear he hq ht hi hcc
  have c0 : w.cell? ⟨b, 0, none⟩ = some .nilIface := cell_of_heap (heap_below HE.out (Below.refl _ _)) 0
  have c1 : w.cell? ⟨b, 1, none⟩ = some (.bool hit) := cell_of_heap (heap_below HE.out (Below.refl _ _)) 1
  have c2 : w.cell? ⟨b, 2, none⟩ = some (.int .i64 i) := cell_of_heap (heap_below HE.out (Below.refl _ _)) 2
  have c3 : w.cell? ⟨b, 3, none⟩ = some (.slice A m p) := cell_of_heap (heap_below HE.out (Below.refl _ _)) 3
  have c4 : w.cell? ⟨b, 4, none⟩ = some (.int .i64 kh) := cell_of_heap (heap_below HE.out (Below.refl _ _)) 4
  have c5 : w.cell? ⟨b, 5, none⟩ = some (.pointer (some ⟨q, 0, none⟩)) := cell_of_heap (heap_below HE.out (Below.refl _ _)) 5
  have c6 : w.cell? ⟨b, 6, none⟩ = some (.pointer (some ⟨t, 0, none⟩)) := cell_of_heap (heap_below HE.out (Below.refl _ _)) 6
  have c7 : w.cell? ⟨b, 7, none⟩ = some (.int .i64 ver) := cell_of_heap (heap_below HE.out (Below.refl _ _)) 7
  have f1 : w.frozen? ⟨b, 1, none⟩ = false := free_of_heap (heap_below HE.out (Below.refl _ _)) 1
  have f3 : w.frozen? ⟨b, 3, none⟩ = false := free_of_heap (heap_below HE.out (Below.refl _ _)) 3
  have f4 : w.frozen? ⟨b, 4, none⟩ = false := free_of_heap (heap_below HE.out (Below.refl _ _)) 4
  have cq : w.cell? ⟨q, 0, none⟩ = some (.int .i64 es.length) := by rw [(HQ.out.below (Below.refl _ _)).cell]; rfl
  have ct : w.cell? ⟨t, 4, none⟩ = some (.int .i64 ver) := cell_of_heap (heap_below HT.out (Below.refl _ _)) 4
  have e0 : w.cell? ⟨q, 1 + i * 3, none⟩ = some (.slice x.A x.m x.p) := ((HQ.out.below (Below.refl _ _)).cell _).trans (pgL_at XE.cells 3 XE.three es rest [nx, pv] i 0 x _ HI.out (by omega) rfl)
  have e1 : w.cell? ⟨q, 1 + i * 3 + 1, none⟩ = some (.int .i64 x.h) := ((HQ.out.below (Below.refl _ _)).cell _).trans (pgL_at XE.cells 3 XE.three es rest [nx, pv] i 1 x _ HI.out (by omega) rfl)
  have e2 : w.cell? ⟨q, 1 + i * 3 + 2, none⟩ = some (.int .i64 x.n) := ((HQ.out.below (Below.refl _ _)).cell _).trans (pgL_at XE.cells 3 XE.three es rest [nx, pv] i 2 x _ HI.out (by omega) rfl)
  have lb : b < w.heap.size := lt_of_heap (heap_below HE.out (Below.refl _ _))
  have lq : q < w.heap.size := (HQ.out.below (Below.refl _ _)).lt
  have lt : t < w.heap.size := lt_of_heap (heap_below HT.out (Below.refl _ _))
  go_enter Tryz.func147, Tryz.ntmps147
  go_wp2_with fail
  obtain ⟨wa, hwa⟩ : ∃ wa, wa = w.alloc (.cells #[.slice none 0 0, .int .i64 0] 136) := ⟨_, rfl⟩
  rw [← hwa]
  have HBA := Lib.hid (show Below w.heap.size w wa by rw [hwa]; exact (Below.refl _ _).alloc (Nat.le_refl _) _)
  rw [← hwa] at HKA
  clear c0 c1 c2 c3 c4 c5 c6 c7 f1 f3 f4 cq ct e0 e1 e2 lb lq lt
  have c0 : wa.cell? ⟨b, 0, none⟩ = some .nilIface := cell_of_heap (heap_below HE.out HBA.out) 0
  have c1 : wa.cell? ⟨b, 1, none⟩ = some (.bool hit) := cell_of_heap (heap_below HE.out HBA.out) 1
  have c2 : wa.cell? ⟨b, 2, none⟩ = some (.int .i64 i) := cell_of_heap (heap_below HE.out HBA.out) 2
  have c3 : wa.cell? ⟨b, 3, none⟩ = some (.slice A m p) := cell_of_heap (heap_below HE.out HBA.out) 3
  have c4 : wa.cell? ⟨b, 4, none⟩ = some (.int .i64 kh) := cell_of_heap (heap_below HE.out HBA.out) 4
  have c5 : wa.cell? ⟨b, 5, none⟩ = some (.pointer (some ⟨q, 0, none⟩)) := cell_of_heap (heap_below HE.out HBA.out) 5
  have c6 : wa.cell? ⟨b, 6, none⟩ = some (.pointer (some ⟨t, 0, none⟩)) := cell_of_heap (heap_below HE.out HBA.out) 6
  have c7 : wa.cell? ⟨b, 7, none⟩ = some (.int .i64 ver) := cell_of_heap (heap_below HE.out HBA.out) 7
  have f1 : wa.frozen? ⟨b, 1, none⟩ = false := free_of_heap (heap_below HE.out HBA.out) 1
  have f3 : wa.frozen? ⟨b, 3, none⟩ = false := free_of_heap (heap_below HE.out HBA.out) 3
  have f4 : wa.frozen? ⟨b, 4, none⟩ = false := free_of_heap (heap_below HE.out HBA.out) 4
  have cq : wa.cell? ⟨q, 0, none⟩ = some (.int .i64 es.length) := by rw [(HQ.out.below HBA.out).cell]; rfl
  have ct : wa.cell? ⟨t, 4, none⟩ = some (.int .i64 ver) := cell_of_heap (heap_below HT.out HBA.out) 4
  have e0 : wa.cell? ⟨q, 1 + i * 3, none⟩ = some (.slice x.A x.m x.p) := ((HQ.out.below HBA.out).cell _).trans (pgL_at XE.cells 3 XE.three es rest [nx, pv] i 0 x _ HI.out (by omega) rfl)
  have e1 : wa.cell? ⟨q, 1 + i * 3 + 1, none⟩ = some (.int .i64 x.h) := ((HQ.out.below HBA.out).cell _).trans (pgL_at XE.cells 3 XE.three es rest [nx, pv] i 1 x _ HI.out (by omega) rfl)
  have e2 : wa.cell? ⟨q, 1 + i * 3 + 2, none⟩ = some (.int .i64 x.n) := ((HQ.out.below HBA.out).cell _).trans (pgL_at XE.cells 3 XE.three es rest [nx, pv] i 2 x _ HI.out (by omega) rfl)
  have lb : b < wa.heap.size := lt_of_heap (heap_below HE.out HBA.out)
  have lq : q < wa.heap.size := (HQ.out.below HBA.out).lt
  have lt : t < wa.heap.size := lt_of_heap (heap_below HT.out HBA.out)
  clear hwa
  go_still_tail 11, (by kernel_rfl)
  obtain ⟨wb, hwb⟩ : ∃ wb, wb = wa.drew := ⟨_, rfl⟩
  change wpList _ _ _ _ _ wa.drew
  rw [← hwb]
  have HBB := Lib.hid (show Below w.heap.size w wb by rw [hwb]; exact HBA.out.drew)
  have HKB := Lib.hid (show wb.heap[w.heap.size]? = some (.cells #[.slice none 0 0, .int .i64 0] 136 (0, 0)) by rw [hwb]; exact HKA.out)
  clear c0 c1 c2 c3 c4 c5 c6 c7 f1 f3 f4 cq ct e0 e1 e2 lb lq lt
  have c0 : wb.cell? ⟨b, 0, none⟩ = some .nilIface := cell_of_heap (heap_below HE.out HBB.out) 0
  have c1 : wb.cell? ⟨b, 1, none⟩ = some (.bool hit) := cell_of_heap (heap_below HE.out HBB.out) 1
  have c2 : wb.cell? ⟨b, 2, none⟩ = some (.int .i64 i) := cell_of_heap (heap_below HE.out HBB.out) 2
  have c3 : wb.cell? ⟨b, 3, none⟩ = some (.slice A m p) := cell_of_heap (heap_below HE.out HBB.out) 3
  have c4 : wb.cell? ⟨b, 4, none⟩ = some (.int .i64 kh) := cell_of_heap (heap_below HE.out HBB.out) 4
  have c5 : wb.cell? ⟨b, 5, none⟩ = some (.pointer (some ⟨q, 0, none⟩)) := cell_of_heap (heap_below HE.out HBB.out) 5
  have c6 : wb.cell? ⟨b, 6, none⟩ = some (.pointer (some ⟨t, 0, none⟩)) := cell_of_heap (heap_below HE.out HBB.out) 6
  have c7 : wb.cell? ⟨b, 7, none⟩ = some (.int .i64 ver) := cell_of_heap (heap_below HE.out HBB.out) 7
  have f1 : wb.frozen? ⟨b, 1, none⟩ = false := free_of_heap (heap_below HE.out HBB.out) 1
  have f3 : wb.frozen? ⟨b, 3, none⟩ = false := free_of_heap (heap_below HE.out HBB.out) 3
  have f4 : wb.frozen? ⟨b, 4, none⟩ = false := free_of_heap (heap_below HE.out HBB.out) 4
  have cq : wb.cell? ⟨q, 0, none⟩ = some (.int .i64 es.length) := by rw [(HQ.out.below HBB.out).cell]; rfl
  have ct : wb.cell? ⟨t, 4, none⟩ = some (.int .i64 ver) := cell_of_heap (heap_below HT.out HBB.out) 4
  have e0 : wb.cell? ⟨q, 1 + i * 3, none⟩ = some (.slice x.A x.m x.p) := ((HQ.out.below HBB.out).cell _).trans (pgL_at XE.cells 3 XE.three es rest [nx, pv] i 0 x _ HI.out (by omega) rfl)
  have e1 : wb.cell? ⟨q, 1 + i * 3 + 1, none⟩ = some (.int .i64 x.h) := ((HQ.out.below HBB.out).cell _).trans (pgL_at XE.cells 3 XE.three es rest [nx, pv] i 1 x _ HI.out (by omega) rfl)
  have e2 : wb.cell? ⟨q, 1 + i * 3 + 2, none⟩ = some (.int .i64 x.n) := ((HQ.out.below HBB.out).cell _).trans (pgL_at XE.cells 3 XE.three es rest [nx, pv] i 2 x _ HI.out (by omega) rfl)
  have lb : b < wb.heap.size := lt_of_heap (heap_below HE.out HBB.out)
  have lq : q < wb.heap.size := (HQ.out.below HBB.out).lt
  have lt : t < wb.heap.size := lt_of_heap (heap_below HT.out HBB.out)
  clear hwb
  go_wp2_with fail
  go_still_tail 11, (by kernel_rfl)
  obtain ⟨wc, hwc⟩ : ∃ wc, wc = wb.drew := ⟨_, rfl⟩
  change wpList _ _ _ _ _ wb.drew
  rw [← hwc]
  have HBC := Lib.hid (show Below w.heap.size w wc by rw [hwc]; exact HBB.out.drew)
  have HKC := Lib.hid (show wc.heap[w.heap.size]? = some (.cells #[.slice none 0 0, .int .i64 0] 136 (0, 0)) by rw [hwc]; exact HKB.out)
  clear c0 c1 c2 c3 c4 c5 c6 c7 f1 f3 f4 cq ct e0 e1 e2 lb lq lt
  have c0 : wc.cell? ⟨b, 0, none⟩ = some .nilIface := cell_of_heap (heap_below HE.out HBC.out) 0
  have c1 : wc.cell? ⟨b, 1, none⟩ = some (.bool hit) := cell_of_heap (heap_below HE.out HBC.out) 1
  have c2 : wc.cell? ⟨b, 2, none⟩ = some (.int .i64 i) := cell_of_heap (heap_below HE.out HBC.out) 2
  have c3 : wc.cell? ⟨b, 3, none⟩ = some (.slice A m p) := cell_of_heap (heap_below HE.out HBC.out) 3
  have c4 : wc.cell? ⟨b, 4, none⟩ = some (.int .i64 kh) := cell_of_heap (heap_below HE.out HBC.out) 4
  have c5 : wc.cell? ⟨b, 5, none⟩ = some (.pointer (some ⟨q, 0, none⟩)) := cell_of_heap (heap_below HE.out HBC.out) 5
  have c6 : wc.cell? ⟨b, 6, none⟩ = some (.pointer (some ⟨t, 0, none⟩)) := cell_of_heap (heap_below HE.out HBC.out) 6
  have c7 : wc.cell? ⟨b, 7, none⟩ = some (.int .i64 ver) := cell_of_heap (heap_below HE.out HBC.out) 7
  have f1 : wc.frozen? ⟨b, 1, none⟩ = false := free_of_heap (heap_below HE.out HBC.out) 1
  have f3 : wc.frozen? ⟨b, 3, none⟩ = false := free_of_heap (heap_below HE.out HBC.out) 3
  have f4 : wc.frozen? ⟨b, 4, none⟩ = false := free_of_heap (heap_below HE.out HBC.out) 4
  have cq : wc.cell? ⟨q, 0, none⟩ = some (.int .i64 es.length) := by rw [(HQ.out.below HBC.out).cell]; rfl
  have ct : wc.cell? ⟨t, 4, none⟩ = some (.int .i64 ver) := cell_of_heap (heap_below HT.out HBC.out) 4
  have e0 : wc.cell? ⟨q, 1 + i * 3, none⟩ = some (.slice x.A x.m x.p) := ((HQ.out.below HBC.out).cell _).trans (pgL_at XE.cells 3 XE.three es rest [nx, pv] i 0 x _ HI.out (by omega) rfl)
  have e1 : wc.cell? ⟨q, 1 + i * 3 + 1, none⟩ = some (.int .i64 x.h) := ((HQ.out.below HBC.out).cell _).trans (pgL_at XE.cells 3 XE.three es rest [nx, pv] i 1 x _ HI.out (by omega) rfl)
  have e2 : wc.cell? ⟨q, 1 + i * 3 + 2, none⟩ = some (.int .i64 x.n) := ((HQ.out.below HBC.out).cell _).trans (pgL_at XE.cells 3 XE.three es rest [nx, pv] i 2 x _ HI.out (by omega) rfl)
  have lb : b < wc.heap.size := lt_of_heap (heap_below HE.out HBC.out)
  have lq : q < wc.heap.size := (HQ.out.below HBC.out).lt
  have lt : t < wc.heap.size := lt_of_heap (heap_below HT.out HBC.out)
  clear hwc
  go_wp2_with fail
  go_region
  obtain ⟨K, hK⟩ : ∃ K, K = w.heap.size := ⟨_, rfl⟩
  obtain ⟨N, hN⟩ : ∃ N, N = wc.heap.size := ⟨_, rfl⟩
  obtain ⟨wd, hwd⟩ : ∃ wd, wd = (wc.alloc (.cells #[.slice x.A x.m x.p, .int .i64 x.h, .int .i64 x.n] 172)).drew := ⟨_, rfl⟩
  rw [← hwd, ← hK, ← hN]
  have HBD := Lib.hid (show Below w.heap.size w wd by rw [hwd]; exact (HBC.out.alloc HBC.out.size _).drew)
  have hkd : wd.heap[K]? = some (.cells #[.slice none 0 0, .int .i64 0] 136 (0, 0)) := by rw [hwd, hK]; exact heap_old HKC.out _
  have hnd : wd.heap[N]? = some (.cells #[.slice x.A x.m x.p, .int .i64 x.h, .int .i64 x.n] 172 (0, 0)) := by rw [hwd, hN]; exact heap_new wc _
  have hKN : K < N := by rw [hK, hN]; exact lt_of_heap HKC.out
  have hbK : b < K := by rw [hK]; exact lt_of_heap HE.out
  have HKK := Lib.hid hK
  clear c0 c1 c2 c3 c4 c5 c6 c7 f1 f3 f4 cq ct e0 e1 e2 lb lq lt
  have c0 : wd.cell? ⟨b, 0, none⟩ = some .nilIface := cell_of_heap (heap_below HE.out HBD.out) 0
  have c1 : wd.cell? ⟨b, 1, none⟩ = some (.bool hit) := cell_of_heap (heap_below HE.out HBD.out) 1
  have c2 : wd.cell? ⟨b, 2, none⟩ = some (.int .i64 i) := cell_of_heap (heap_below HE.out HBD.out) 2
  have c3 : wd.cell? ⟨b, 3, none⟩ = some (.slice A m p) := cell_of_heap (heap_below HE.out HBD.out) 3
  have c4 : wd.cell? ⟨b, 4, none⟩ = some (.int .i64 kh) := cell_of_heap (heap_below HE.out HBD.out) 4
  have c5 : wd.cell? ⟨b, 5, none⟩ = some (.pointer (some ⟨q, 0, none⟩)) := cell_of_heap (heap_below HE.out HBD.out) 5
  have c6 : wd.cell? ⟨b, 6, none⟩ = some (.pointer (some ⟨t, 0, none⟩)) := cell_of_heap (heap_below HE.out HBD.out) 6
  have c7 : wd.cell? ⟨b, 7, none⟩ = some (.int .i64 ver) := cell_of_heap (heap_below HE.out HBD.out) 7
  have f1 : wd.frozen? ⟨b, 1, none⟩ = false := free_of_heap (heap_below HE.out HBD.out) 1
  have f3 : wd.frozen? ⟨b, 3, none⟩ = false := free_of_heap (heap_below HE.out HBD.out) 3
  have f4 : wd.frozen? ⟨b, 4, none⟩ = false := free_of_heap (heap_below HE.out HBD.out) 4
  have cq : wd.cell? ⟨q, 0, none⟩ = some (.int .i64 es.length) := by rw [(HQ.out.below HBD.out).cell]; rfl
  have ct : wd.cell? ⟨t, 4, none⟩ = some (.int .i64 ver) := cell_of_heap (heap_below HT.out HBD.out) 4
  have e0 : wd.cell? ⟨q, 1 + i * 3, none⟩ = some (.slice x.A x.m x.p) := ((HQ.out.below HBD.out).cell _).trans (pgL_at XE.cells 3 XE.three es rest [nx, pv] i 0 x _ HI.out (by omega) rfl)
  have e1 : wd.cell? ⟨q, 1 + i * 3 + 1, none⟩ = some (.int .i64 x.h) := ((HQ.out.below HBD.out).cell _).trans (pgL_at XE.cells 3 XE.three es rest [nx, pv] i 1 x _ HI.out (by omega) rfl)
  have e2 : wd.cell? ⟨q, 1 + i * 3 + 2, none⟩ = some (.int .i64 x.n) := ((HQ.out.below HBD.out).cell _).trans (pgL_at XE.cells 3 XE.three es rest [nx, pv] i 2 x _ HI.out (by omega) rfl)
  have lb : b < wd.heap.size := lt_of_heap (heap_below HE.out HBD.out)
  have lq : q < wd.heap.size := (HQ.out.below HBD.out).lt
  have lt : t < wd.heap.size := lt_of_heap (heap_below HT.out HBD.out)
  have ck0 := cell_of_heap hkd 0
  have ck1 := cell_of_heap hkd 1
  have fk0 := free_of_heap hkd 0
  have fk1 := free_of_heap hkd 1
  have cn0 := cell_of_heap hnd 0
  have cn1 := cell_of_heap hnd 1
  have cn2 := cell_of_heap hnd 2
  have HKD := Lib.hid hkd
  clear hwd hK hN hkd hnd
  go_wp2_with fail
  go_region
  go_wp2_with fail
  obtain ⟨w6, hw6⟩ : ∃ w6, w6 = (((((wd.setCell ⟨K, 0, none⟩ (.slice x.A x.m x.p)).setCell ⟨K, 1, none⟩ (.int .i64 x.h)).setCell ⟨b, 3, none⟩ (.slice x.A x.m x.p)).setCell ⟨b, 4, none⟩ (.int .i64 x.h)).setCell ⟨b, 1, none⟩ (.bool false)).drew := ⟨_, rfl⟩
  rw [← hw6]
  have hKb : ¬ K = b := by omega
  have hbK' : ¬ b = K := by omega
  have hc6 : Chg (fun k => k = b) w w6 := by
    have hk := HKK.out
    rw [hw6]
    exact (Chg.setCell (Chg.setCell (Chg.setCell (Chg.setCell (Chg.setCell (Chg.of_below (S := fun k => k = b) HBD.out) (p := ⟨K, 0, none⟩) (.inr (by show w.heap.size ≤ K; omega)) _) (p := ⟨K, 1, none⟩) (.inr (by show w.heap.size ≤ K; omega)) _) (p := ⟨b, 3, none⟩) (.inl rfl) _) (p := ⟨b, 4, none⟩) (.inl rfl) _) (p := ⟨b, 1, none⟩) (.inl rfl) _).drew
  have he6 : EnumAt w6 b .nilIface false i (.slice x.A x.m x.p) x.h (ptr q) t ver uni := by
    unfold EnumAt
    rw [hw6, heap_drew, heap_setCell_at, heap_setCell_at, heap_setCell_at, heap_setCell_ne _ b K _ _ hbK', heap_setCell_ne _ b K _ _ hbK', show wd.heap[b]? = _ from heap_below HE.out HBD.out]
    rfl
  have hk6 : w6.heap[K]? = some (.cells #[.slice x.A x.m x.p, .int .i64 x.h] 136 (0, 0)) := by
    rw [hw6, heap_drew, heap_setCell_ne _ K b _ _ hKb, heap_setCell_ne _ K b _ _ hKb, heap_setCell_ne _ K b _ _ hKb, heap_setCell_at, heap_setCell_at, HKD.out]
    rfl
  refine (HN.out w6 hc6 he6).mono ?_
  rintro y w7 ⟨rfl, he7, hc7⟩
  have hk7 := heap_chg hk6 hc7 hKb
  have k0 := cell_of_heap hk7 0
  have k1 := cell_of_heap hk7 1
  clear hw6 hk6 hk7
  go_wp2
  exact bodyPost_ret (v := .tuple #[.agg #[.slice x.A x.m x.p, .int .i64 x.h], .int .i64 x.n, .nilIface]) (by simp [results, Tryz.results147, go_sem, k0, k1]) rfl ⟨rfl, he7, hc6.trans hc7⟩

set_option maxRecDepth 100000 in
set_option maxHeartbeats 1000000 in
theorem Prev_at (b q i : Nat) (hit : Bool) (kv : Value) (kh : Int) (t : Nat) (ver : Int) (uni : Bool) (es : List XE) (rest : List Value) (nx pv : Value) (x : XE) (c : Int) (fi la r : Value) (w : World)
    (he : EnumAt w b .nilIface hit i kv kh (ptr q) t ver uni) (hq : PageAt w q es rest nx pv) (hi : es[i]? = some x) (ht : TreeW w t c fi la r ver) (kv1 : ∃ A m p, kv = .slice A m p) (R : Value) (i' : Nat) (q' : Value)
    (HN : Hid (∀ w1, Chg (fun k => k = b) w w1 → EnumAt w1 b .nilIface false i (.slice x.A x.m x.p) x.h (ptr q) t ver uni → Calls Tryz.prog 150 #[.pointer (some ⟨b, 0, none⟩)] w1
      fun y w' => y = .returned R ∧ EnumAt w' b R false i' (.slice x.A x.m x.p) x.h q' t ver uni ∧ Chg (fun k => k = b) w1 w')) :
    Calls Tryz.prog 148 #[.pointer (some ⟨b, 0, none⟩)] w
      fun y w' => y = .returned (.tuple #[.agg #[.slice x.A x.m x.p, .int .i64 x.h], .int .i64 x.n, .nilIface]) ∧ EnumAt w' b R false i' (.slice x.A x.m x.p) x.h q' t ver uni ∧ Chg (fun k => k = b) w w' := by
  have hle := hq.le
  have hin : i < es.length := (List.getElem?_eq_some_iff.1 hi).1
  obtain ⟨A, m, p, rfl⟩ := kv1
  have HE := Lib.hid he
  have HQ := Lib.hid hq
  have HT := Lib.hid ht
  have HI := Lib.hid hi
  have hg : ((es.length : Int) ≤ i) = False := by simp; omega
  have hi1 : (i : Int) < 129 := by omega
  have hi2 : (0 : Int) ≤ i := by omega
  have hvv : (ver != ver) = false := by simp
  have hcc : (w.alloc (.cells #[.slice none 0 0, .int .i64 0] 136)).heap[w.heap.size]? = some (.cells #[.slice none 0 0, .int .i64 0] 136 (0, 0)) := heap_new w _
  have HKA := Lib.hid hcc
  clear he hq ht hi hcc
  have c0 : w.cell? ⟨b, 0, none⟩ = some .nilIface := cell_of_heap (heap_below HE.out (Below.refl _ _)) 0
  have c1 : w.cell? ⟨b, 1, none⟩ = some (.bool hit) := cell_of_heap (heap_below HE.out (Below.refl _ _)) 1
  have c2 : w.cell? ⟨b, 2, none⟩ = some (.int .i64 i) := cell_of_heap (heap_below HE.out (Below.refl _ _)) 2
  have c3 : w.cell? ⟨b, 3, none⟩ = some (.slice A m p) := cell_of_heap (heap_below HE.out (Below.refl _ _)) 3
  have c4 : w.cell? ⟨b, 4, none⟩ = some (.int .i64 kh) := cell_of_heap (heap_below HE.out (Below.refl _ _)) 4
  have c5 : w.cell? ⟨b, 5, none⟩ = some (.pointer (some ⟨q, 0, none⟩)) := cell_of_heap (heap_below HE.out (Below.refl _ _)) 5
  have c6 : w.cell? ⟨b, 6, none⟩ = some (.pointer (some ⟨t, 0, none⟩)) := cell_of_heap (heap_below HE.out (Below.refl _ _)) 6
  have c7 : w.cell? ⟨b, 7, none⟩ = some (.int .i64 ver) := cell_of_heap (heap_below HE.out (Below.refl _ _)) 7
  have f1 : w.frozen? ⟨b, 1, none⟩ = false := free_of_heap (heap_below HE.out (Below.refl _ _)) 1
  have f3 : w.frozen? ⟨b, 3, none⟩ = false := free_of_heap (heap_below HE.out (Below.refl _ _)) 3
  have f4 : w.frozen? ⟨b, 4, none⟩ = false := free_of_heap (heap_below HE.out (Below.refl _ _)) 4
  have cq : w.cell? ⟨q, 0, none⟩ = some (.int .i64 es.length) := by rw [(HQ.out.below (Below.refl _ _)).cell]; rfl
  have ct : w.cell? ⟨t, 4, none⟩ = some (.int .i64 ver) := cell_of_heap (heap_below HT.out (Below.refl _ _)) 4
  have e0 : w.cell? ⟨q, 1 + i * 3, none⟩ = some (.slice x.A x.m x.p) := ((HQ.out.below (Below.refl _ _)).cell _).trans (pgL_at XE.cells 3 XE.three es rest [nx, pv] i 0 x _ HI.out (by omega) rfl)
  have e1 : w.cell? ⟨q, 1 + i * 3 + 1, none⟩ = some (.int .i64 x.h) := ((HQ.out.below (Below.refl _ _)).cell _).trans (pgL_at XE.cells 3 XE.three es rest [nx, pv] i 1 x _ HI.out (by omega) rfl)
  have e2 : w.cell? ⟨q, 1 + i * 3 + 2, none⟩ = some (.int .i64 x.n) := ((HQ.out.below (Below.refl _ _)).cell _).trans (pgL_at XE.cells 3 XE.three es rest [nx, pv] i 2 x _ HI.out (by omega) rfl)
  have lb : b < w.heap.size := lt_of_heap (heap_below HE.out (Below.refl _ _))
  have lq : q < w.heap.size := (HQ.out.below (Below.refl _ _)).lt
  have lt : t < w.heap.size := lt_of_heap (heap_below HT.out (Below.refl _ _))
  go_enter Tryz.func148, Tryz.ntmps148
  go_wp2_with fail
  obtain ⟨wa, hwa⟩ : ∃ wa, wa = w.alloc (.cells #[.slice none 0 0, .int .i64 0] 136) := ⟨_, rfl⟩
  rw [← hwa]
  have HBA := Lib.hid (show Below w.heap.size w wa by rw [hwa]; exact (Below.refl _ _).alloc (Nat.le_refl _) _)
  rw [← hwa] at HKA
  clear c0 c1 c2 c3 c4 c5 c6 c7 f1 f3 f4 cq ct e0 e1 e2 lb lq lt
  have c0 : wa.cell? ⟨b, 0, none⟩ = some .nilIface := cell_of_heap (heap_below HE.out HBA.out) 0
  have c1 : wa.cell? ⟨b, 1, none⟩ = some (.bool hit) := cell_of_heap (heap_below HE.out HBA.out) 1
  have c2 : wa.cell? ⟨b, 2, none⟩ = some (.int .i64 i) := cell_of_heap (heap_below HE.out HBA.out) 2
  have c3 : wa.cell? ⟨b, 3, none⟩ = some (.slice A m p) := cell_of_heap (heap_below HE.out HBA.out) 3
  have c4 : wa.cell? ⟨b, 4, none⟩ = some (.int .i64 kh) := cell_of_heap (heap_below HE.out HBA.out) 4
  have c5 : wa.cell? ⟨b, 5, none⟩ = some (.pointer (some ⟨q, 0, none⟩)) := cell_of_heap (heap_below HE.out HBA.out) 5
  have c6 : wa.cell? ⟨b, 6, none⟩ = some (.pointer (some ⟨t, 0, none⟩)) := cell_of_heap (heap_below HE.out HBA.out) 6
  have c7 : wa.cell? ⟨b, 7, none⟩ = some (.int .i64 ver) := cell_of_heap (heap_below HE.out HBA.out) 7
  have f1 : wa.frozen? ⟨b, 1, none⟩ = false := free_of_heap (heap_below HE.out HBA.out) 1
  have f3 : wa.frozen? ⟨b, 3, none⟩ = false := free_of_heap (heap_below HE.out HBA.out) 3
  have f4 : wa.frozen? ⟨b, 4, none⟩ = false := free_of_heap (heap_below HE.out HBA.out) 4
  have cq : wa.cell? ⟨q, 0, none⟩ = some (.int .i64 es.length) := by rw [(HQ.out.below HBA.out).cell]; rfl
  have ct : wa.cell? ⟨t, 4, none⟩ = some (.int .i64 ver) := cell_of_heap (heap_below HT.out HBA.out) 4
  have e0 : wa.cell? ⟨q, 1 + i * 3, none⟩ = some (.slice x.A x.m x.p) := ((HQ.out.below HBA.out).cell _).trans (pgL_at XE.cells 3 XE.three es rest [nx, pv] i 0 x _ HI.out (by omega) rfl)
  have e1 : wa.cell? ⟨q, 1 + i * 3 + 1, none⟩ = some (.int .i64 x.h) := ((HQ.out.below HBA.out).cell _).trans (pgL_at XE.cells 3 XE.three es rest [nx, pv] i 1 x _ HI.out (by omega) rfl)
  have e2 : wa.cell? ⟨q, 1 + i * 3 + 2, none⟩ = some (.int .i64 x.n) := ((HQ.out.below HBA.out).cell _).trans (pgL_at XE.cells 3 XE.three es rest [nx, pv] i 2 x _ HI.out (by omega) rfl)
  have lb : b < wa.heap.size := lt_of_heap (heap_below HE.out HBA.out)
  have lq : q < wa.heap.size := (HQ.out.below HBA.out).lt
  have lt : t < wa.heap.size := lt_of_heap (heap_below HT.out HBA.out)
  clear hwa
  go_still_tail 11, (by kernel_rfl)
  obtain ⟨wb, hwb⟩ : ∃ wb, wb = wa.drew := ⟨_, rfl⟩
  change wpList _ _ _ _ _ wa.drew
  rw [← hwb]
  have HBB := Lib.hid (show Below w.heap.size w wb by rw [hwb]; exact HBA.out.drew)
  have HKB := Lib.hid (show wb.heap[w.heap.size]? = some (.cells #[.slice none 0 0, .int .i64 0] 136 (0, 0)) by rw [hwb]; exact HKA.out)
  clear c0 c1 c2 c3 c4 c5 c6 c7 f1 f3 f4 cq ct e0 e1 e2 lb lq lt
  have c0 : wb.cell? ⟨b, 0, none⟩ = some .nilIface := cell_of_heap (heap_below HE.out HBB.out) 0
  have c1 : wb.cell? ⟨b, 1, none⟩ = some (.bool hit) := cell_of_heap (heap_below HE.out HBB.out) 1
  have c2 : wb.cell? ⟨b, 2, none⟩ = some (.int .i64 i) := cell_of_heap (heap_below HE.out HBB.out) 2
  have c3 : wb.cell? ⟨b, 3, none⟩ = some (.slice A m p) := cell_of_heap (heap_below HE.out HBB.out) 3
  have c4 : wb.cell? ⟨b, 4, none⟩ = some (.int .i64 kh) := cell_of_heap (heap_below HE.out HBB.out) 4
  have c5 : wb.cell? ⟨b, 5, none⟩ = some (.pointer (some ⟨q, 0, none⟩)) := cell_of_heap (heap_below HE.out HBB.out) 5
  have c6 : wb.cell? ⟨b, 6, none⟩ = some (.pointer (some ⟨t, 0, none⟩)) := cell_of_heap (heap_below HE.out HBB.out) 6
  have c7 : wb.cell? ⟨b, 7, none⟩ = some (.int .i64 ver) := cell_of_heap (heap_below HE.out HBB.out) 7
  have f1 : wb.frozen? ⟨b, 1, none⟩ = false := free_of_heap (heap_below HE.out HBB.out) 1
  have f3 : wb.frozen? ⟨b, 3, none⟩ = false := free_of_heap (heap_below HE.out HBB.out) 3
  have f4 : wb.frozen? ⟨b, 4, none⟩ = false := free_of_heap (heap_below HE.out HBB.out) 4
  have cq : wb.cell? ⟨q, 0, none⟩ = some (.int .i64 es.length) := by rw [(HQ.out.below HBB.out).cell]; rfl
  have ct : wb.cell? ⟨t, 4, none⟩ = some (.int .i64 ver) := cell_of_heap (heap_below HT.out HBB.out) 4
  have e0 : wb.cell? ⟨q, 1 + i * 3, none⟩ = some (.slice x.A x.m x.p) := ((HQ.out.below HBB.out).cell _).trans (pgL_at XE.cells 3 XE.three es rest [nx, pv] i 0 x _ HI.out (by omega) rfl)
  have e1 : wb.cell? ⟨q, 1 + i * 3 + 1, none⟩ = some (.int .i64 x.h) := ((HQ.out.below HBB.out).cell _).trans (pgL_at XE.cells 3 XE.three es rest [nx, pv] i 1 x _ HI.out (by omega) rfl)
  have e2 : wb.cell? ⟨q, 1 + i * 3 + 2, none⟩ = some (.int .i64 x.n) := ((HQ.out.below HBB.out).cell _).trans (pgL_at XE.cells 3 XE.three es rest [nx, pv] i 2 x _ HI.out (by omega) rfl)
  have lb : b < wb.heap.size := lt_of_heap (heap_below HE.out HBB.out)
  have lq : q < wb.heap.size := (HQ.out.below HBB.out).lt
  have lt : t < wb.heap.size := lt_of_heap (heap_below HT.out HBB.out)
  clear hwb
  go_wp2_with fail
  go_still_tail 11, (by kernel_rfl)
  obtain ⟨wc, hwc⟩ : ∃ wc, wc = wb.drew := ⟨_, rfl⟩
  change wpList _ _ _ _ _ wb.drew
  rw [← hwc]
  have HBC := Lib.hid (show Below w.heap.size w wc by rw [hwc]; exact HBB.out.drew)
  have HKC := Lib.hid (show wc.heap[w.heap.size]? = some (.cells #[.slice none 0 0, .int .i64 0] 136 (0, 0)) by rw [hwc]; exact HKB.out)
  clear c0 c1 c2 c3 c4 c5 c6 c7 f1 f3 f4 cq ct e0 e1 e2 lb lq lt
  have c0 : wc.cell? ⟨b, 0, none⟩ = some .nilIface := cell_of_heap (heap_below HE.out HBC.out) 0
  have c1 : wc.cell? ⟨b, 1, none⟩ = some (.bool hit) := cell_of_heap (heap_below HE.out HBC.out) 1
  have c2 : wc.cell? ⟨b, 2, none⟩ = some (.int .i64 i) := cell_of_heap (heap_below HE.out HBC.out) 2
  have c3 : wc.cell? ⟨b, 3, none⟩ = some (.slice A m p) := cell_of_heap (heap_below HE.out HBC.out) 3
  have c4 : wc.cell? ⟨b, 4, none⟩ = some (.int .i64 kh) := cell_of_heap (heap_below HE.out HBC.out) 4
  have c5 : wc.cell? ⟨b, 5, none⟩ = some (.pointer (some ⟨q, 0, none⟩)) := cell_of_heap (heap_below HE.out HBC.out) 5
  have c6 : wc.cell? ⟨b, 6, none⟩ = some (.pointer (some ⟨t, 0, none⟩)) := cell_of_heap (heap_below HE.out HBC.out) 6
  have c7 : wc.cell? ⟨b, 7, none⟩ = some (.int .i64 ver) := cell_of_heap (heap_below HE.out HBC.out) 7
  have f1 : wc.frozen? ⟨b, 1, none⟩ = false := free_of_heap (heap_below HE.out HBC.out) 1
  have f3 : wc.frozen? ⟨b, 3, none⟩ = false := free_of_heap (heap_below HE.out HBC.out) 3
  have f4 : wc.frozen? ⟨b, 4, none⟩ = false := free_of_heap (heap_below HE.out HBC.out) 4
  have cq : wc.cell? ⟨q, 0, none⟩ = some (.int .i64 es.length) := by rw [(HQ.out.below HBC.out).cell]; rfl
  have ct : wc.cell? ⟨t, 4, none⟩ = some (.int .i64 ver) := cell_of_heap (heap_below HT.out HBC.out) 4
  have e0 : wc.cell? ⟨q, 1 + i * 3, none⟩ = some (.slice x.A x.m x.p) := ((HQ.out.below HBC.out).cell _).trans (pgL_at XE.cells 3 XE.three es rest [nx, pv] i 0 x _ HI.out (by omega) rfl)
  have e1 : wc.cell? ⟨q, 1 + i * 3 + 1, none⟩ = some (.int .i64 x.h) := ((HQ.out.below HBC.out).cell _).trans (pgL_at XE.cells 3 XE.three es rest [nx, pv] i 1 x _ HI.out (by omega) rfl)
  have e2 : wc.cell? ⟨q, 1 + i * 3 + 2, none⟩ = some (.int .i64 x.n) := ((HQ.out.below HBC.out).cell _).trans (pgL_at XE.cells 3 XE.three es rest [nx, pv] i 2 x _ HI.out (by omega) rfl)
  have lb : b < wc.heap.size := lt_of_heap (heap_below HE.out HBC.out)
  have lq : q < wc.heap.size := (HQ.out.below HBC.out).lt
  have lt : t < wc.heap.size := lt_of_heap (heap_below HT.out HBC.out)
  clear hwc
  go_wp2_with fail
  go_region
  obtain ⟨K, hK⟩ : ∃ K, K = w.heap.size := ⟨_, rfl⟩
  obtain ⟨N, hN⟩ : ∃ N, N = wc.heap.size := ⟨_, rfl⟩
  obtain ⟨wd, hwd⟩ : ∃ wd, wd = (wc.alloc (.cells #[.slice x.A x.m x.p, .int .i64 x.h, .int .i64 x.n] 172)).drew := ⟨_, rfl⟩
  rw [← hwd, ← hK, ← hN]
  have HBD := Lib.hid (show Below w.heap.size w wd by rw [hwd]; exact (HBC.out.alloc HBC.out.size _).drew)
  have hkd : wd.heap[K]? = some (.cells #[.slice none 0 0, .int .i64 0] 136 (0, 0)) := by rw [hwd, hK]; exact heap_old HKC.out _
  have hnd : wd.heap[N]? = some (.cells #[.slice x.A x.m x.p, .int .i64 x.h, .int .i64 x.n] 172 (0, 0)) := by rw [hwd, hN]; exact heap_new wc _
  have hKN : K < N := by rw [hK, hN]; exact lt_of_heap HKC.out
  have hbK : b < K := by rw [hK]; exact lt_of_heap HE.out
  have HKK := Lib.hid hK
  clear c0 c1 c2 c3 c4 c5 c6 c7 f1 f3 f4 cq ct e0 e1 e2 lb lq lt
  have c0 : wd.cell? ⟨b, 0, none⟩ = some .nilIface := cell_of_heap (heap_below HE.out HBD.out) 0
  have c1 : wd.cell? ⟨b, 1, none⟩ = some (.bool hit) := cell_of_heap (heap_below HE.out HBD.out) 1
  have c2 : wd.cell? ⟨b, 2, none⟩ = some (.int .i64 i) := cell_of_heap (heap_below HE.out HBD.out) 2
  have c3 : wd.cell? ⟨b, 3, none⟩ = some (.slice A m p) := cell_of_heap (heap_below HE.out HBD.out) 3
  have c4 : wd.cell? ⟨b, 4, none⟩ = some (.int .i64 kh) := cell_of_heap (heap_below HE.out HBD.out) 4
  have c5 : wd.cell? ⟨b, 5, none⟩ = some (.pointer (some ⟨q, 0, none⟩)) := cell_of_heap (heap_below HE.out HBD.out) 5
  have c6 : wd.cell? ⟨b, 6, none⟩ = some (.pointer (some ⟨t, 0, none⟩)) := cell_of_heap (heap_below HE.out HBD.out) 6
  have c7 : wd.cell? ⟨b, 7, none⟩ = some (.int .i64 ver) := cell_of_heap (heap_below HE.out HBD.out) 7
  have f1 : wd.frozen? ⟨b, 1, none⟩ = false := free_of_heap (heap_below HE.out HBD.out) 1
  have f3 : wd.frozen? ⟨b, 3, none⟩ = false := free_of_heap (heap_below HE.out HBD.out) 3
  have f4 : wd.frozen? ⟨b, 4, none⟩ = false := free_of_heap (heap_below HE.out HBD.out) 4
  have cq : wd.cell? ⟨q, 0, none⟩ = some (.int .i64 es.length) := by rw [(HQ.out.below HBD.out).cell]; rfl
  have ct : wd.cell? ⟨t, 4, none⟩ = some (.int .i64 ver) := cell_of_heap (heap_below HT.out HBD.out) 4
  have e0 : wd.cell? ⟨q, 1 + i * 3, none⟩ = some (.slice x.A x.m x.p) := ((HQ.out.below HBD.out).cell _).trans (pgL_at XE.cells 3 XE.three es rest [nx, pv] i 0 x _ HI.out (by omega) rfl)
  have e1 : wd.cell? ⟨q, 1 + i * 3 + 1, none⟩ = some (.int .i64 x.h) := ((HQ.out.below HBD.out).cell _).trans (pgL_at XE.cells 3 XE.three es rest [nx, pv] i 1 x _ HI.out (by omega) rfl)
  have e2 : wd.cell? ⟨q, 1 + i * 3 + 2, none⟩ = some (.int .i64 x.n) := ((HQ.out.below HBD.out).cell _).trans (pgL_at XE.cells 3 XE.three es rest [nx, pv] i 2 x _ HI.out (by omega) rfl)
  have lb : b < wd.heap.size := lt_of_heap (heap_below HE.out HBD.out)
  have lq : q < wd.heap.size := (HQ.out.below HBD.out).lt
  have lt : t < wd.heap.size := lt_of_heap (heap_below HT.out HBD.out)
  have ck0 := cell_of_heap hkd 0
  have ck1 := cell_of_heap hkd 1
  have fk0 := free_of_heap hkd 0
  have fk1 := free_of_heap hkd 1
  have cn0 := cell_of_heap hnd 0
  have cn1 := cell_of_heap hnd 1
  have cn2 := cell_of_heap hnd 2
  have HKD := Lib.hid hkd
  clear hwd hK hN hkd hnd
  go_wp2_with fail
  go_region
  go_wp2_with fail
  obtain ⟨w6, hw6⟩ : ∃ w6, w6 = (((((wd.setCell ⟨K, 0, none⟩ (.slice x.A x.m x.p)).setCell ⟨K, 1, none⟩ (.int .i64 x.h)).setCell ⟨b, 3, none⟩ (.slice x.A x.m x.p)).setCell ⟨b, 4, none⟩ (.int .i64 x.h)).setCell ⟨b, 1, none⟩ (.bool false)).drew := ⟨_, rfl⟩
  rw [← hw6]
  have hKb : ¬ K = b := by omega
  have hbK' : ¬ b = K := by omega
  have hc6 : Chg (fun k => k = b) w w6 := by
    have hk := HKK.out
    rw [hw6]
    exact (Chg.setCell (Chg.setCell (Chg.setCell (Chg.setCell (Chg.setCell (Chg.of_below (S := fun k => k = b) HBD.out) (p := ⟨K, 0, none⟩) (.inr (by show w.heap.size ≤ K; omega)) _) (p := ⟨K, 1, none⟩) (.inr (by show w.heap.size ≤ K; omega)) _) (p := ⟨b, 3, none⟩) (.inl rfl) _) (p := ⟨b, 4, none⟩) (.inl rfl) _) (p := ⟨b, 1, none⟩) (.inl rfl) _).drew
  have he6 : EnumAt w6 b .nilIface false i (.slice x.A x.m x.p) x.h (ptr q) t ver uni := by
    unfold EnumAt
    rw [hw6, heap_drew, heap_setCell_at, heap_setCell_at, heap_setCell_at, heap_setCell_ne _ b K _ _ hbK', heap_setCell_ne _ b K _ _ hbK', show wd.heap[b]? = _ from heap_below HE.out HBD.out]
    rfl
  have hk6 : w6.heap[K]? = some (.cells #[.slice x.A x.m x.p, .int .i64 x.h] 136 (0, 0)) := by
    rw [hw6, heap_drew, heap_setCell_ne _ K b _ _ hKb, heap_setCell_ne _ K b _ _ hKb, heap_setCell_ne _ K b _ _ hKb, heap_setCell_at, heap_setCell_at, HKD.out]
    rfl
  refine (HN.out w6 hc6 he6).mono ?_
  rintro y w7 ⟨rfl, he7, hc7⟩
  have hk7 := heap_chg hk6 hc7 hKb
  have k0 := cell_of_heap hk7 0
  have k1 := cell_of_heap hk7 1
  clear hw6 hk6 hk7
  go_wp2
  exact bodyPost_ret (v := .tuple #[.agg #[.slice x.A x.m x.p, .int .i64 x.h], .int .i64 x.n, .nilIface]) (by simp [results, Tryz.results148, go_sem, k0, k1]) rfl ⟨rfl, he7, hc6.trans hc7⟩

end Go.Proofs.YtffgkocokkhahaaGreatDoor
