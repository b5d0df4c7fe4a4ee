/-
  impl.memDeed: "begin", "commit", "rollback". || impl.memDeed: "create". || impl.memDeed: "update", "delete". || impl.memDeed: "read". || impl.memDeed, any deed; what holds between the deeds of impl.Mem. || impl.Mem: deeds to a new memory store. || laws.zzFits22, laws.zzFits21, laws.isMem. || laws.stores: a memory store has what was put into it. || laws.tried in memory: the deeds, the map of what is now, the maps of what was. || What a law has tried, turned by a deed. || What the program's text lays into the errors that a memory store may tell, as a walk wants it; a world that has them.
-/
import Derived.Test.YtffgkocokkhahaaGreatDoorP05
import Derived.Test.YtffgkocokkhahaaGreatDoorP03
import Derived.Test.YtffgkocokkhahaaGreatDoorP04
import Derived.Deep.RegionHeld3
import Derived.Test.YtffgkocokkhahaaGreatDoorP06
import Derived.Test.YtffgkocokkhahaaGreatDoorP02
import Derived.LaidLaws
import Derived.Stop.LaidErr
import Derived.Stop.ErrReads

/- impl.memDeed: "begin", "commit", "rollback". -/
namespace Go.Proofs.YtffgkocokkhahaaGreatDoor
open Go.RowKit

theorem below_mdeed (w : World) (d : Array Value) (e : Array Value) : Below w.heap.size w ((w.alloc (.cells d 34)).alloc (.cells e 60)) := below_al2 w _ _

set_option maxRecDepth 100000 in
set_option maxHeartbeats 3200000 in
theorem deed_begin {m n nn c0 : Nat} {A : Option Addr} {hd : Int} {c : MC (List VV)} {s : MSt RV} {ls : List (List (Un RV))} {M D : Nat → Prop} {w : World} (h : MemX m s ls M D w) (hs : Sim RV.nil RV.l n s ls c) (hn : n ≤ 90) :
    Calls Tryz.prog 31 #[.pointer (some ⟨m, 0, none⟩), .agg #[.string ⟨#[98, 101, 103, 105, 110]⟩, .int .i64 hd, .slice A nn c0]] w (MDeedP m n c .begin M D w) := by
  have HX := Lib.hid h
  have HS := Lib.hid hs
  have hln := hs.len
  have hsum := hs.sum
  have hbd := hs.bd.d
  have hbr := hs.bd.r
  have HN := Lib.hid hn
  skip
  clear h hs hln hsum hbd hbr hn
  go_enter_defers Tryz.func31, Tryz.ntmps31
  go_wp2_with fail
  obtain ⟨W0, hW0⟩ : ∃ W0, W0 = (w.alloc (.cells #[.string ⟨#[98, 101, 103, 105, 110]⟩, .int .i64 hd, .slice A nn c0] 34)).alloc (.cells #[.int .i64 0, .int .i64 0, .slice none 0 0] 60) := ⟨_, rfl⟩
  rw [← hW0]
  have HR0 : Hid (W0.heap[w.heap.size + 1]? = some (.cells #[.int .i64 0, .int .i64 0, .slice none 0 0] 60 (0, 0))) := Lib.hid (by rw [hW0]; have := heap_new (w.alloc (.cells #[.string ⟨#[98, 101, 103, 105, 110]⟩, .int .i64 hd, .slice A nn c0] 34)) (.cells #[.int .i64 0, .int .i64 0, .slice none 0 0] 60); simpa using this)
  have HB0 : Hid (Below w.heap.size w W0) := Lib.hid (hW0 ▸ below_mdeed w _ _)
  have HX0 := Lib.hid (HX.out.below HB0.out)
  have HS0 : Hid (W0.heap.size = w.heap.size + 2) := Lib.hid (by rw [hW0]; simp)
  clear hW0
  go_wp2_with (first
    | (go_at_call 35
       refine (begin_x HX0.out (by have := HS.out.len; have := HN.out; omega)).mono ?_
       rintro y w2 ⟨rfl, hst⟩
       have HST := Lib.hid hst
       have HR2 : Hid (w2.heap[w.heap.size + 1]? = some (.cells #[.int .i64 0, .int .i64 0, .slice none 0 0] 60 (0, 0))) := Lib.hid (by
         obtain ⟨M', D', _, hc, _⟩ := hst
         exact heap_chg HR0.out hc (fun hM => absurd (HX.out.lt hM) (by omega)))
       have r0 := cell_of_heap HR2.out 0
       have r1 := cell_of_heap HR2.out 1
       have r2 := cell_of_heap HR2.out 2
       have f0 := free_of_heap HR2.out 0
       have f1 := free_of_heap HR2.out 1
       have f2 := free_of_heap HR2.out 2
       clear hst)
    | (go_at_call 37
       refine (zzErr_nil _).mono ?_
       rintro y w3 ⟨rfl, rfl⟩))
  obtain ⟨W, hW⟩ : ∃ W, W = (((w2.setCell ⟨w.heap.size + 1, 0, none⟩ (.int .i64 0)).setCell ⟨w.heap.size + 1, 0, none⟩ (.int .i64 0)).setCell ⟨w.heap.size + 1, 1, none⟩ (.int .i64 0)).setCell ⟨w.heap.size + 1, 2, none⟩ (.slice none 0 0) := ⟨_, rfl⟩
  rw [← hW]
  have hh : W.heap[w.heap.size + 1]? = some (.cells #[.int .i64 0, .int .i64 0, .slice none 0 0] 60 (0, 0)) := by rw [hW, heap_setCell_at, heap_setCell_at, heap_setCell_at, heap_setCell_at, HR2.out]; rfl
  have d0 : W.cell? ⟨w.heap.size + 1, 0, none⟩ = some (.int .i64 0) := cell_of_heap hh 0
  have d1 : W.cell? ⟨w.heap.size + 1, 1, none⟩ = some (.int .i64 0) := cell_of_heap hh 1
  have d2 : W.cell? ⟨w.heap.size + 1, 2, none⟩ = some (.slice none 0 0) := cell_of_heap hh 2
  have hc : Chg (fun k => k = w.heap.size + 1) w2 W := hW ▸ ((((Chg.refl (fun k => k = w.heap.size + 1) w2).setCell (p := ⟨w.heap.size + 1, _, none⟩) (.inl rfl) _).setCell (p := ⟨w.heap.size + 1, _, none⟩) (.inl rfl) _).setCell (p := ⟨w.heap.size + 1, _, none⟩) (.inl rfl) _).setCell (p := ⟨w.heap.size + 1, _, none⟩) (.inl rfl) _
  refine leaves_cons (f := 36) (args := #[.pointer (some ⟨w.heap.size + 1, 0, none⟩)]) (by simp) (by simp [go_sem]) ?_
  refine (fault_idle _ _).mono ?_
  rintro e u' w'' ⟨rfl, rfl, rfl⟩
  simp [Leaves, settle, results, Tryz.results31, go_sem, d0, d1, d2]
  exact mdeed_plain (e := 0) (h := 0) HX.out HB0.out rfl (by rw [HS0.out]; omega) (fun k h => h) (fun k h => .inl h) HST.out hc (HS.out.begin) (rfl)

set_option maxRecDepth 100000 in
set_option maxHeartbeats 3200000 in
theorem deed_commit1 {m n nn c0 : Nat} {A : Option Addr} {hd : Int} {c : MC (List VV)} {s : MSt RV} {us : List (Un RV)}  {M D : Nat → Prop} {w : World} (h : MemX m s [us] M D w) (hs : Sim RV.nil RV.l n s [us] c) (hn : n ≤ 90) :
    Calls Tryz.prog 31 #[.pointer (some ⟨m, 0, none⟩), .agg #[.string ⟨#[99, 111, 109, 109, 105, 116]⟩, .int .i64 hd, .slice A nn c0]] w (MDeedP m n c .commit M D w) := by
  have HX := Lib.hid h
  have HS := Lib.hid hs
  have hln := hs.len
  have hsum := hs.sum
  have hbd := hs.bd.d
  have hbr := hs.bd.r
  have HN := Lib.hid hn
  have HCS : Hid (c.2 ≠ []) := Lib.hid hs.some
  clear h hs hln hsum hbd hbr hn
  go_enter_defers Tryz.func31, Tryz.ntmps31
  go_wp2_with fail
  obtain ⟨W0, hW0⟩ : ∃ W0, W0 = (w.alloc (.cells #[.string ⟨#[99, 111, 109, 109, 105, 116]⟩, .int .i64 hd, .slice A nn c0] 34)).alloc (.cells #[.int .i64 0, .int .i64 0, .slice none 0 0] 60) := ⟨_, rfl⟩
  rw [← hW0]
  have HR0 : Hid (W0.heap[w.heap.size + 1]? = some (.cells #[.int .i64 0, .int .i64 0, .slice none 0 0] 60 (0, 0))) := Lib.hid (by rw [hW0]; have := heap_new (w.alloc (.cells #[.string ⟨#[99, 111, 109, 109, 105, 116]⟩, .int .i64 hd, .slice A nn c0] 34)) (.cells #[.int .i64 0, .int .i64 0, .slice none 0 0] 60); simpa using this)
  have HB0 : Hid (Below w.heap.size w W0) := Lib.hid (hW0 ▸ below_mdeed w _ _)
  have HX0 := Lib.hid (HX.out.below HB0.out)
  have HS0 : Hid (W0.heap.size = w.heap.size + 2) := Lib.hid (by rw [hW0]; simp)
  clear hW0
  go_wp2_with (first
    | (go_at_call 52
       refine (commit_one HX0.out).mono ?_
       rintro y w2 ⟨rfl, hst⟩
       have HST := Lib.hid hst
       have HR2 : Hid (w2.heap[w.heap.size + 1]? = some (.cells #[.int .i64 0, .int .i64 0, .slice none 0 0] 60 (0, 0))) := Lib.hid (by
         obtain ⟨M', D', _, hc, _⟩ := hst
         exact heap_chg HR0.out hc (fun hM => absurd (HX.out.lt hM) (by omega)))
       have r0 := cell_of_heap HR2.out 0
       have r1 := cell_of_heap HR2.out 1
       have r2 := cell_of_heap HR2.out 2
       have f0 := free_of_heap HR2.out 0
       have f1 := free_of_heap HR2.out 1
       have f2 := free_of_heap HR2.out 2
       clear hst)
    | (go_at_call 37
       refine (zzErr_nil _).mono ?_
       rintro y w3 ⟨rfl, rfl⟩))
  obtain ⟨W, hW⟩ : ∃ W, W = (((w2.setCell ⟨w.heap.size + 1, 0, none⟩ (.int .i64 0)).setCell ⟨w.heap.size + 1, 0, none⟩ (.int .i64 0)).setCell ⟨w.heap.size + 1, 1, none⟩ (.int .i64 0)).setCell ⟨w.heap.size + 1, 2, none⟩ (.slice none 0 0) := ⟨_, rfl⟩
  rw [← hW]
  have hh : W.heap[w.heap.size + 1]? = some (.cells #[.int .i64 0, .int .i64 0, .slice none 0 0] 60 (0, 0)) := by rw [hW, heap_setCell_at, heap_setCell_at, heap_setCell_at, heap_setCell_at, HR2.out]; rfl
  have d0 : W.cell? ⟨w.heap.size + 1, 0, none⟩ = some (.int .i64 0) := cell_of_heap hh 0
  have d1 : W.cell? ⟨w.heap.size + 1, 1, none⟩ = some (.int .i64 0) := cell_of_heap hh 1
  have d2 : W.cell? ⟨w.heap.size + 1, 2, none⟩ = some (.slice none 0 0) := cell_of_heap hh 2
  have hc : Chg (fun k => k = w.heap.size + 1) w2 W := hW ▸ ((((Chg.refl (fun k => k = w.heap.size + 1) w2).setCell (p := ⟨w.heap.size + 1, _, none⟩) (.inl rfl) _).setCell (p := ⟨w.heap.size + 1, _, none⟩) (.inl rfl) _).setCell (p := ⟨w.heap.size + 1, _, none⟩) (.inl rfl) _).setCell (p := ⟨w.heap.size + 1, _, none⟩) (.inl rfl) _
  refine leaves_cons (f := 36) (args := #[.pointer (some ⟨w.heap.size + 1, 0, none⟩)]) (by simp) (by simp [go_sem]) ?_
  refine (fault_idle _ _).mono ?_
  rintro e u' w'' ⟨rfl, rfl, rfl⟩
  simp [Leaves, settle, results, Tryz.results31, go_sem, d0, d1, d2]
  exact mdeed_plain (e := 0) (h := 0) HX.out HB0.out rfl (by rw [HS0.out]; omega) (fun k h => h) (fun k h => .inl h) HST.out hc (HS.out.commit1.mono (by omega)) (by simp [ans, HCS.out])

set_option maxRecDepth 100000 in
set_option maxHeartbeats 3200000 in
theorem deed_commit2 {m n nn c0 : Nat} {A : Option Addr} {hd : Int} {c : MC (List VV)} {s : MSt RV} {us vs : List (Un RV)} {ls : List (List (Un RV))} {M D : Nat → Prop} {w : World} (h : MemX m s (us :: vs :: ls) M D w) (hs : Sim RV.nil RV.l n s (us :: vs :: ls) c) (hn : n ≤ 90) :
    Calls Tryz.prog 31 #[.pointer (some ⟨m, 0, none⟩), .agg #[.string ⟨#[99, 111, 109, 109, 105, 116]⟩, .int .i64 hd, .slice A nn c0]] w (MDeedP m n c .commit M D w) := by
  have HX := Lib.hid h
  have HS := Lib.hid hs
  have hln := hs.len
  have hsum := hs.sum
  have hbd := hs.bd.d
  have hbr := hs.bd.r
  have HN := Lib.hid hn
  have HCS : Hid (c.2 ≠ []) := Lib.hid hs.some
  have hu1 : us.length ≤ 1000 := by simp at hsum; omega
  have hv1 : vs.length ≤ 1000 := by simp at hsum; omega
  have hl1 : ls.length ≤ 1000 := by simp at hln; omega
  have HU := Lib.hid (And.intro hu1 (And.intro hv1 hl1))
  clear hu1 hv1 hl1
  clear h hs hln hsum hbd hbr hn
  go_enter_defers Tryz.func31, Tryz.ntmps31
  go_wp2_with fail
  obtain ⟨W0, hW0⟩ : ∃ W0, W0 = (w.alloc (.cells #[.string ⟨#[99, 111, 109, 109, 105, 116]⟩, .int .i64 hd, .slice A nn c0] 34)).alloc (.cells #[.int .i64 0, .int .i64 0, .slice none 0 0] 60) := ⟨_, rfl⟩
  rw [← hW0]
  have HR0 : Hid (W0.heap[w.heap.size + 1]? = some (.cells #[.int .i64 0, .int .i64 0, .slice none 0 0] 60 (0, 0))) := Lib.hid (by rw [hW0]; have := heap_new (w.alloc (.cells #[.string ⟨#[99, 111, 109, 109, 105, 116]⟩, .int .i64 hd, .slice A nn c0] 34)) (.cells #[.int .i64 0, .int .i64 0, .slice none 0 0] 60); simpa using this)
  have HB0 : Hid (Below w.heap.size w W0) := Lib.hid (hW0 ▸ below_mdeed w _ _)
  have HX0 := Lib.hid (HX.out.below HB0.out)
  have HS0 : Hid (W0.heap.size = w.heap.size + 2) := Lib.hid (by rw [hW0]; simp)
  clear hW0
  go_wp2_with (first
    | (go_at_call 52
       refine (commit_two HX0.out HU.out.1 HU.out.2.1 HU.out.2.2).mono ?_
       rintro y w2 ⟨rfl, hst⟩
       have HST := Lib.hid hst
       have HR2 : Hid (w2.heap[w.heap.size + 1]? = some (.cells #[.int .i64 0, .int .i64 0, .slice none 0 0] 60 (0, 0))) := Lib.hid (by
         obtain ⟨M', D', _, hc, _⟩ := hst
         exact heap_chg HR0.out hc (fun hM => absurd (HX.out.lt hM) (by omega)))
       have r0 := cell_of_heap HR2.out 0
       have r1 := cell_of_heap HR2.out 1
       have r2 := cell_of_heap HR2.out 2
       have f0 := free_of_heap HR2.out 0
       have f1 := free_of_heap HR2.out 1
       have f2 := free_of_heap HR2.out 2
       clear hst)
    | (go_at_call 37
       refine (zzErr_nil _).mono ?_
       rintro y w3 ⟨rfl, rfl⟩))
  obtain ⟨W, hW⟩ : ∃ W, W = (((w2.setCell ⟨w.heap.size + 1, 0, none⟩ (.int .i64 0)).setCell ⟨w.heap.size + 1, 0, none⟩ (.int .i64 0)).setCell ⟨w.heap.size + 1, 1, none⟩ (.int .i64 0)).setCell ⟨w.heap.size + 1, 2, none⟩ (.slice none 0 0) := ⟨_, rfl⟩
  rw [← hW]
  have hh : W.heap[w.heap.size + 1]? = some (.cells #[.int .i64 0, .int .i64 0, .slice none 0 0] 60 (0, 0)) := by rw [hW, heap_setCell_at, heap_setCell_at, heap_setCell_at, heap_setCell_at, HR2.out]; rfl
  have d0 : W.cell? ⟨w.heap.size + 1, 0, none⟩ = some (.int .i64 0) := cell_of_heap hh 0
  have d1 : W.cell? ⟨w.heap.size + 1, 1, none⟩ = some (.int .i64 0) := cell_of_heap hh 1
  have d2 : W.cell? ⟨w.heap.size + 1, 2, none⟩ = some (.slice none 0 0) := cell_of_heap hh 2
  have hc : Chg (fun k => k = w.heap.size + 1) w2 W := hW ▸ ((((Chg.refl (fun k => k = w.heap.size + 1) w2).setCell (p := ⟨w.heap.size + 1, _, none⟩) (.inl rfl) _).setCell (p := ⟨w.heap.size + 1, _, none⟩) (.inl rfl) _).setCell (p := ⟨w.heap.size + 1, _, none⟩) (.inl rfl) _).setCell (p := ⟨w.heap.size + 1, _, none⟩) (.inl rfl) _
  refine leaves_cons (f := 36) (args := #[.pointer (some ⟨w.heap.size + 1, 0, none⟩)]) (by simp) (by simp [go_sem]) ?_
  refine (fault_idle _ _).mono ?_
  rintro e u' w'' ⟨rfl, rfl, rfl⟩
  simp [Leaves, settle, results, Tryz.results31, go_sem, d0, d1, d2]
  exact mdeed_plain (e := 0) (h := 0) HX.out HB0.out rfl (by rw [HS0.out]; omega) (fun k h => h) (fun k h => .inl h) HST.out hc (HS.out.commit2.mono (by omega)) (by simp [ans, HCS.out])

set_option maxRecDepth 100000 in
set_option maxHeartbeats 3200000 in
theorem deed_commit0 {m n nn c0 : Nat} {A : Option Addr} {hd : Int} {c : MC (List VV)} {s : MSt RV}  {M D : Nat → Prop} {w : World} (h : MemX m s [] M D w) (hs : Sim RV.nil RV.l n s [] c) {a pe : Addr} (ha : Has w a) (he : HasE w 1 a pe) (hn : n ≤ 90) :
    Calls Tryz.prog 31 #[.pointer (some ⟨m, 0, none⟩), .agg #[.string ⟨#[99, 111, 109, 109, 105, 116]⟩, .int .i64 hd, .slice A nn c0]] w (MDeedP m n c .commit M D w) := by
  have HX := Lib.hid h
  have HS := Lib.hid hs
  have hln := hs.len
  have hsum := hs.sum
  have hbd := hs.bd.d
  have hbr := hs.bd.r
  have HN := Lib.hid hn
  have HA := Lib.hid ha
  have HE := Lib.hid he
  have HCN : Hid (c.2 = []) := Lib.hid hs.none
  clear ha he
  clear h hs hln hsum hbd hbr hn
  go_enter_defers Tryz.func31, Tryz.ntmps31
  go_wp2_with fail
  obtain ⟨W0, hW0⟩ : ∃ W0, W0 = (w.alloc (.cells #[.string ⟨#[99, 111, 109, 109, 105, 116]⟩, .int .i64 hd, .slice A nn c0] 34)).alloc (.cells #[.int .i64 0, .int .i64 0, .slice none 0 0] 60) := ⟨_, rfl⟩
  rw [← hW0]
  have HR0 : Hid (W0.heap[w.heap.size + 1]? = some (.cells #[.int .i64 0, .int .i64 0, .slice none 0 0] 60 (0, 0))) := Lib.hid (by rw [hW0]; have := heap_new (w.alloc (.cells #[.string ⟨#[99, 111, 109, 109, 105, 116]⟩, .int .i64 hd, .slice A nn c0] 34)) (.cells #[.int .i64 0, .int .i64 0, .slice none 0 0] 60); simpa using this)
  have HB0 : Hid (Below w.heap.size w W0) := Lib.hid (hW0 ▸ below_mdeed w _ _)
  have HX0 := Lib.hid (HX.out.below HB0.out)
  have HS0 : Hid (W0.heap.size = w.heap.size + 2) := Lib.hid (by rw [hW0]; simp)
  clear hW0
  go_wp2_with (first
    | (go_at_call 52
       refine (commit_none HX0.out (HE.out.of HB0.out).cell ⟨_, _, rfl⟩).mono ?_
       rintro y w2 ⟨rfl, hw2⟩
       have HW2 := Lib.hid hw2
       have HST : Hid (StepP m s [] M D W0 w2) := Lib.hid (by rw [hw2]; exact ⟨M, D, HX0.out, Chg.refl _ _, fun k h => h, fun k h => .inl h, fun k h => .inl h⟩)
       have HR2 : Hid (w2.heap[w.heap.size + 1]? = some (.cells #[.int .i64 0, .int .i64 0, .slice none 0 0] 60 (0, 0))) := Lib.hid (by rw [hw2]; exact HR0.out)
       have r0 := cell_of_heap HR2.out 0
       have r1 := cell_of_heap HR2.out 1
       have r2 := cell_of_heap HR2.out 2
       have f0 := free_of_heap HR2.out 0
       have f1 := free_of_heap HR2.out 1
       have f2 := free_of_heap HR2.out 2
       clear hw2)
    | (go_at_call 37
       refine (zzErr_one a pe _ (by rw [HW2.out]; exact HA.out.of HB0.out) (by rw [HW2.out]; exact (HE.out.of HB0.out).er) HE.out.ne).mono ?_
       rintro y w3 ⟨rfl, rfl⟩))
  obtain ⟨W, hW⟩ : ∃ W, W = (((w2.setCell ⟨w.heap.size + 1, 0, none⟩ (.int .i64 1)).setCell ⟨w.heap.size + 1, 0, none⟩ (.int .i64 1)).setCell ⟨w.heap.size + 1, 1, none⟩ (.int .i64 0)).setCell ⟨w.heap.size + 1, 2, none⟩ (.slice none 0 0) := ⟨_, rfl⟩
  rw [← hW]
  have hh : W.heap[w.heap.size + 1]? = some (.cells #[.int .i64 1, .int .i64 0, .slice none 0 0] 60 (0, 0)) := by rw [hW, heap_setCell_at, heap_setCell_at, heap_setCell_at, heap_setCell_at, HR2.out]; rfl
  have d0 : W.cell? ⟨w.heap.size + 1, 0, none⟩ = some (.int .i64 1) := cell_of_heap hh 0
  have d1 : W.cell? ⟨w.heap.size + 1, 1, none⟩ = some (.int .i64 0) := cell_of_heap hh 1
  have d2 : W.cell? ⟨w.heap.size + 1, 2, none⟩ = some (.slice none 0 0) := cell_of_heap hh 2
  have hc : Chg (fun k => k = w.heap.size + 1) w2 W := hW ▸ ((((Chg.refl (fun k => k = w.heap.size + 1) w2).setCell (p := ⟨w.heap.size + 1, _, none⟩) (.inl rfl) _).setCell (p := ⟨w.heap.size + 1, _, none⟩) (.inl rfl) _).setCell (p := ⟨w.heap.size + 1, _, none⟩) (.inl rfl) _).setCell (p := ⟨w.heap.size + 1, _, none⟩) (.inl rfl) _
  refine leaves_cons (f := 36) (args := #[.pointer (some ⟨w.heap.size + 1, 0, none⟩)]) (by simp) (by simp [go_sem]) ?_
  refine (fault_idle _ _).mono ?_
  rintro e u' w'' ⟨rfl, rfl, rfl⟩
  simp [Leaves, settle, results, Tryz.results31, go_sem, d0, d1, d2]
  exact mdeed_plain (e := 1) (h := 0) HX.out HB0.out rfl (by rw [HS0.out]; omega) (fun k h => h) (fun k h => .inl h) HST.out hc (by have h1 := HS.out.mono (k := n + 1) (by omega); have h2 : nxt [] c .commit = c := (by simp only [nxt, HCN.out, List.tail_nil]; rw [← HCN.out]); rw [h2]; exact h1) (by simp [ans, HCN.out])

set_option maxRecDepth 100000 in
set_option maxHeartbeats 3200000 in
theorem deed_rollback1 {m n nn c0 : Nat} {A : Option Addr} {hd : Int} {c : MC (List VV)} {s : MSt RV} {us : List (Un RV)} {ls : List (List (Un RV))} {M D : Nat → Prop} {w : World} (h : MemX m s (us :: ls) M D w) (hs : Sim RV.nil RV.l n s (us :: ls) c) (hn : n ≤ 90) :
    Calls Tryz.prog 31 #[.pointer (some ⟨m, 0, none⟩), .agg #[.string ⟨#[114, 111, 108, 108, 98, 97, 99, 107]⟩, .int .i64 hd, .slice A nn c0]] w (MDeedP m n c .rollback M D w) := by
  have HX := Lib.hid h
  have HS := Lib.hid hs
  have hln := hs.len
  have hsum := hs.sum
  have hbd := hs.bd.d
  have hbr := hs.bd.r
  have HN := Lib.hid hn
  have HCS : Hid (c.2 ≠ []) := Lib.hid hs.some
  have hu1 : us.length ≤ 1000 := by simp at hsum; omega
  have hl1 : ls.length ≤ 1000 := by simp at hln; omega
  have HU := Lib.hid (And.intro hu1 (And.intro hl1 (And.intro (show s.data.length ≤ 1000 by omega) (show s.rcy.length ≤ 1000 by omega))))
  have HOK := Lib.hid hs.back1
  clear hu1 hl1
  clear h hs hln hsum hbd hbr hn
  go_enter_defers Tryz.func31, Tryz.ntmps31
  go_wp2_with fail
  obtain ⟨W0, hW0⟩ : ∃ W0, W0 = (w.alloc (.cells #[.string ⟨#[114, 111, 108, 108, 98, 97, 99, 107]⟩, .int .i64 hd, .slice A nn c0] 34)).alloc (.cells #[.int .i64 0, .int .i64 0, .slice none 0 0] 60) := ⟨_, rfl⟩
  rw [← hW0]
  have HR0 : Hid (W0.heap[w.heap.size + 1]? = some (.cells #[.int .i64 0, .int .i64 0, .slice none 0 0] 60 (0, 0))) := Lib.hid (by rw [hW0]; have := heap_new (w.alloc (.cells #[.string ⟨#[114, 111, 108, 108, 98, 97, 99, 107]⟩, .int .i64 hd, .slice A nn c0] 34)) (.cells #[.int .i64 0, .int .i64 0, .slice none 0 0] 60); simpa using this)
  have HB0 : Hid (Below w.heap.size w W0) := Lib.hid (hW0 ▸ below_mdeed w _ _)
  have HX0 := Lib.hid (HX.out.below HB0.out)
  have HS0 : Hid (W0.heap.size = w.heap.size + 2) := Lib.hid (by rw [hW0]; simp)
  clear hW0
  go_wp2_with (first
    | (go_at_call 53
       refine (rollback_any HX0.out HOK.out.1 HU.out.2.2.1 HU.out.2.2.2 HU.out.1 HU.out.2.1).mono ?_
       rintro y w2 ⟨rfl, hst⟩
       have HST := Lib.hid hst
       have HR2 : Hid (w2.heap[w.heap.size + 1]? = some (.cells #[.int .i64 0, .int .i64 0, .slice none 0 0] 60 (0, 0))) := Lib.hid (by
         obtain ⟨M', D', _, hc, _⟩ := hst
         exact heap_chg HR0.out hc (fun hM => absurd (HX.out.lt hM) (by omega)))
       have r0 := cell_of_heap HR2.out 0
       have r1 := cell_of_heap HR2.out 1
       have r2 := cell_of_heap HR2.out 2
       have f0 := free_of_heap HR2.out 0
       have f1 := free_of_heap HR2.out 1
       have f2 := free_of_heap HR2.out 2
       clear hst)
    | (go_at_call 37
       refine (zzErr_nil _).mono ?_
       rintro y w3 ⟨rfl, rfl⟩))
  obtain ⟨W, hW⟩ : ∃ W, W = (((w2.setCell ⟨w.heap.size + 1, 0, none⟩ (.int .i64 0)).setCell ⟨w.heap.size + 1, 0, none⟩ (.int .i64 0)).setCell ⟨w.heap.size + 1, 1, none⟩ (.int .i64 0)).setCell ⟨w.heap.size + 1, 2, none⟩ (.slice none 0 0) := ⟨_, rfl⟩
  rw [← hW]
  have hh : W.heap[w.heap.size + 1]? = some (.cells #[.int .i64 0, .int .i64 0, .slice none 0 0] 60 (0, 0)) := by rw [hW, heap_setCell_at, heap_setCell_at, heap_setCell_at, heap_setCell_at, HR2.out]; rfl
  have d0 : W.cell? ⟨w.heap.size + 1, 0, none⟩ = some (.int .i64 0) := cell_of_heap hh 0
  have d1 : W.cell? ⟨w.heap.size + 1, 1, none⟩ = some (.int .i64 0) := cell_of_heap hh 1
  have d2 : W.cell? ⟨w.heap.size + 1, 2, none⟩ = some (.slice none 0 0) := cell_of_heap hh 2
  have hc : Chg (fun k => k = w.heap.size + 1) w2 W := hW ▸ ((((Chg.refl (fun k => k = w.heap.size + 1) w2).setCell (p := ⟨w.heap.size + 1, _, none⟩) (.inl rfl) _).setCell (p := ⟨w.heap.size + 1, _, none⟩) (.inl rfl) _).setCell (p := ⟨w.heap.size + 1, _, none⟩) (.inl rfl) _).setCell (p := ⟨w.heap.size + 1, _, none⟩) (.inl rfl) _
  refine leaves_cons (f := 36) (args := #[.pointer (some ⟨w.heap.size + 1, 0, none⟩)]) (by simp) (by simp [go_sem]) ?_
  refine (fault_idle _ _).mono ?_
  rintro e u' w'' ⟨rfl, rfl, rfl⟩
  simp [Leaves, settle, results, Tryz.results31, go_sem, d0, d1, d2]
  exact mdeed_plain (e := 0) (h := 0) HX.out HB0.out rfl (by rw [HS0.out]; omega) (fun k h => h) (fun k h => .inl h) HST.out hc (HOK.out.2.mono (by omega)) (by simp [ans, HCS.out])

set_option maxRecDepth 100000 in
set_option maxHeartbeats 3200000 in
theorem deed_rollback0 {m n nn c0 : Nat} {A : Option Addr} {hd : Int} {c : MC (List VV)} {s : MSt RV}  {M D : Nat → Prop} {w : World} (h : MemX m s [] M D w) (hs : Sim RV.nil RV.l n s [] c) {a pe : Addr} (ha : Has w a) (he : HasE w 2 a pe) (hn : n ≤ 90) :
    Calls Tryz.prog 31 #[.pointer (some ⟨m, 0, none⟩), .agg #[.string ⟨#[114, 111, 108, 108, 98, 97, 99, 107]⟩, .int .i64 hd, .slice A nn c0]] w (MDeedP m n c .rollback M D w) := by
  have HX := Lib.hid h
  have HS := Lib.hid hs
  have hln := hs.len
  have hsum := hs.sum
  have hbd := hs.bd.d
  have hbr := hs.bd.r
  have HN := Lib.hid hn
  have HA := Lib.hid ha
  have HE := Lib.hid he
  have HCN : Hid (c.2 = []) := Lib.hid hs.none
  clear ha he
  clear h hs hln hsum hbd hbr hn
  go_enter_defers Tryz.func31, Tryz.ntmps31
  go_wp2_with fail
  obtain ⟨W0, hW0⟩ : ∃ W0, W0 = (w.alloc (.cells #[.string ⟨#[114, 111, 108, 108, 98, 97, 99, 107]⟩, .int .i64 hd, .slice A nn c0] 34)).alloc (.cells #[.int .i64 0, .int .i64 0, .slice none 0 0] 60) := ⟨_, rfl⟩
  rw [← hW0]
  have HR0 : Hid (W0.heap[w.heap.size + 1]? = some (.cells #[.int .i64 0, .int .i64 0, .slice none 0 0] 60 (0, 0))) := Lib.hid (by rw [hW0]; have := heap_new (w.alloc (.cells #[.string ⟨#[114, 111, 108, 108, 98, 97, 99, 107]⟩, .int .i64 hd, .slice A nn c0] 34)) (.cells #[.int .i64 0, .int .i64 0, .slice none 0 0] 60); simpa using this)
  have HB0 : Hid (Below w.heap.size w W0) := Lib.hid (hW0 ▸ below_mdeed w _ _)
  have HX0 := Lib.hid (HX.out.below HB0.out)
  have HS0 : Hid (W0.heap.size = w.heap.size + 2) := Lib.hid (by rw [hW0]; simp)
  clear hW0
  go_wp2_with (first
    | (go_at_call 53
       refine (rollback_none HX0.out (HE.out.of HB0.out).cell ⟨_, _, rfl⟩).mono ?_
       rintro y w2 ⟨rfl, hw2⟩
       have HW2 := Lib.hid hw2
       have HST : Hid (StepP m s [] M D W0 w2) := Lib.hid (by rw [hw2]; exact ⟨M, D, HX0.out, Chg.refl _ _, fun k h => h, fun k h => .inl h, fun k h => .inl h⟩)
       have HR2 : Hid (w2.heap[w.heap.size + 1]? = some (.cells #[.int .i64 0, .int .i64 0, .slice none 0 0] 60 (0, 0))) := Lib.hid (by rw [hw2]; exact HR0.out)
       have r0 := cell_of_heap HR2.out 0
       have r1 := cell_of_heap HR2.out 1
       have r2 := cell_of_heap HR2.out 2
       have f0 := free_of_heap HR2.out 0
       have f1 := free_of_heap HR2.out 1
       have f2 := free_of_heap HR2.out 2
       clear hw2)
    | (go_at_call 37
       refine (zzErr_one a pe _ (by rw [HW2.out]; exact HA.out.of HB0.out) (by rw [HW2.out]; exact (HE.out.of HB0.out).er) HE.out.ne).mono ?_
       rintro y w3 ⟨rfl, rfl⟩))
  obtain ⟨W, hW⟩ : ∃ W, W = (((w2.setCell ⟨w.heap.size + 1, 0, none⟩ (.int .i64 1)).setCell ⟨w.heap.size + 1, 0, none⟩ (.int .i64 1)).setCell ⟨w.heap.size + 1, 1, none⟩ (.int .i64 0)).setCell ⟨w.heap.size + 1, 2, none⟩ (.slice none 0 0) := ⟨_, rfl⟩
  rw [← hW]
  have hh : W.heap[w.heap.size + 1]? = some (.cells #[.int .i64 1, .int .i64 0, .slice none 0 0] 60 (0, 0)) := by rw [hW, heap_setCell_at, heap_setCell_at, heap_setCell_at, heap_setCell_at, HR2.out]; rfl
  have d0 : W.cell? ⟨w.heap.size + 1, 0, none⟩ = some (.int .i64 1) := cell_of_heap hh 0
  have d1 : W.cell? ⟨w.heap.size + 1, 1, none⟩ = some (.int .i64 0) := cell_of_heap hh 1
  have d2 : W.cell? ⟨w.heap.size + 1, 2, none⟩ = some (.slice none 0 0) := cell_of_heap hh 2
  have hc : Chg (fun k => k = w.heap.size + 1) w2 W := hW ▸ ((((Chg.refl (fun k => k = w.heap.size + 1) w2).setCell (p := ⟨w.heap.size + 1, _, none⟩) (.inl rfl) _).setCell (p := ⟨w.heap.size + 1, _, none⟩) (.inl rfl) _).setCell (p := ⟨w.heap.size + 1, _, none⟩) (.inl rfl) _).setCell (p := ⟨w.heap.size + 1, _, none⟩) (.inl rfl) _
  refine leaves_cons (f := 36) (args := #[.pointer (some ⟨w.heap.size + 1, 0, none⟩)]) (by simp) (by simp [go_sem]) ?_
  refine (fault_idle _ _).mono ?_
  rintro e u' w'' ⟨rfl, rfl, rfl⟩
  simp [Leaves, settle, results, Tryz.results31, go_sem, d0, d1, d2]
  exact mdeed_plain (e := 1) (h := 0) HX.out HB0.out rfl (by rw [HS0.out]; omega) (fun k h => h) (fun k h => .inl h) HST.out hc (by have h1 := HS.out.mono (k := n + 1) (by omega); have h2 : nxt [] c .rollback = c := (by simp only [nxt, HCN.out, List.tail_nil, List.head?_nil, Option.getD_none]; rw [← HCN.out]); rw [h2]; exact h1) (by simp [ans, HCN.out])

end Go.Proofs.YtffgkocokkhahaaGreatDoor

/- impl.memDeed: "create". -/
namespace Go.Proofs.YtffgkocokkhahaaGreatDoor
open Go.RowKit

set_option maxRecDepth 100000 in
set_option maxHeartbeats 3200000 in
theorem deed_new {m n c0 : Nat} {A : Option Addr} {c : MC (List VV)} {s : MSt RV} {us : List (Un RV)} {ls : List (List (Un RV))} {M D : Nat → Prop} {w : World} (h : MemX m s (us :: ls) M D w) (hs : Sim RV.nil RV.l n s (us :: ls) c) (hn : n ≤ 90) {l : List VV} (hA : LAt w A l) (hcc : ConcL l) (hff : FitL l) (hl : l.length ≤ 1000) {hh0 : Int} (hr : s.rcy = []) :
    Calls Tryz.prog 31 #[.pointer (some ⟨m, 0, none⟩), .agg #[.string ⟨#[99, 114, 101, 97, 116, 101]⟩, .int .i64 hh0, .slice A l.length c0]] w (MDeedP m n c (.create l) M D w) := by
  have HX := Lib.hid h
  have HS := Lib.hid hs
  have hln := hs.len
  have hsum := hs.sum
  have hbd := hs.bd.d
  have hbr := hs.bd.r
  have hu1 : us.length ≤ 1000 := by simp at hsum; omega
  have HU := Lib.hid (And.intro hu1 (And.intro (show s.data.length ≤ 1000 by omega) (show s.rcy.length ≤ 1000 by omega)))
  have HI : Hid (∀ w', Below w.heap.size w w' → Calls Tryz.prog 39 #[.slice A l.length c0] w' (InsP3 l w')) := Lib.hid (fun w' hb => ins3_all l A c0 w' (hA.below hb) hcc.good (by omega))
  have HC := Lib.hid hcc
  have HF := Lib.hid hff
  have HL := Lib.hid hl
  obtain ⟨hd, hhd⟩ : ∃ hd, hd = s.data.length := ⟨_, rfl⟩
  have HHD := Lib.hid hhd
  have HRC := Lib.hid hr
  clear hhd hr
  clear h hs hln hsum hbd hbr hn hu1 hA hcc hff hl
  go_enter_defers Tryz.func31, Tryz.ntmps31
  go_wp2_with fail
  obtain ⟨W0, hW0⟩ : ∃ W0, W0 = (w.alloc (.cells #[.string ⟨#[99, 114, 101, 97, 116, 101]⟩, .int .i64 hh0, .slice A l.length c0] 34)).alloc (.cells #[.int .i64 0, .int .i64 0, .slice none 0 0] 60) := ⟨_, rfl⟩
  rw [← hW0]
  have HK0 : Hid (W0.heap[w.heap.size]? = some (.cells #[.string ⟨#[99, 114, 101, 97, 116, 101]⟩, .int .i64 hh0, .slice A l.length c0] 34 (0, 0))) := Lib.hid (by rw [hW0]; exact (heap_alloc_ne _ _ _ (by simp)).trans (heap_new w _))
  have HR0 : Hid (W0.heap[w.heap.size + 1]? = some (.cells #[.int .i64 0, .int .i64 0, .slice none 0 0] 60 (0, 0))) := Lib.hid (by rw [hW0]; have := heap_new (w.alloc (.cells #[.string ⟨#[99, 114, 101, 97, 116, 101]⟩, .int .i64 hh0, .slice A l.length c0] 34)) (.cells #[.int .i64 0, .int .i64 0, .slice none 0 0] 60); simpa using this)
  have HB0 : Hid (Below w.heap.size w W0) := Lib.hid (hW0 ▸ below_mdeed w _ _)
  have HX0 := Lib.hid (HX.out.below HB0.out)
  have hs0 : W0.heap.size = w.heap.size + 2 := by rw [hW0]; simp
  have j0 := cell_of_heap HK0.out 0
  have j1 := cell_of_heap HK0.out 1
  have j2 := cell_of_heap HK0.out 2
  have g0 := cell_of_heap HR0.out 0
  have g1 := cell_of_heap HR0.out 1
  have g2 := cell_of_heap HR0.out 2
  clear hW0
  go_wp2_with (first
    | (go_simp; go_at_call 39
       refine (HI.out _ (by first | exact HB0.out | exact HB0.out.drew)).mono ?_
       rintro y w1 ⟨A1, c1, vs, rfl, hb1', hI1⟩
       have hb1 : Below W0.heap.size W0 w1 := (by first | exact hb1' | exact ⟨hb1'.os, hb1'.tape, hb1'.output, hb1'.size, hb1'.block⟩)
       have HK1 := Lib.hid (heap_below HK0.out hb1)
       have HR1 := Lib.hid (heap_below HR0.out hb1)
       have HB1 : Hid (Below w.heap.size w w1) := Lib.hid (up_below HB0.out (Nat.le_refl _) hb1)
       have hs1 : w.heap.size + 2 ≤ w1.heap.size := lt_of_heap HR1.out
       have hX1 : MemX m s (us :: ls) M (fun k => D k ∨ (w.heap.size + 2 ≤ k ∧ k < w1.heap.size)) w1 := (HX.out.below HB1.out).more (fun k h => .inl h) (fun k hk => by
         rcases hk with hk | hk
         · exact ⟨Nat.lt_of_lt_of_le (HX.out.dat k hk).1 HB1.out.size, (HX.out.dat k hk).2⟩
         · exact ⟨hk.2, fun hM => by have := HX.out.lt hM; omega⟩)
       have HX1 := Lib.hid hX1
       have hw0 : W0.drew.heap.size = W0.heap.size := rfl
       have HI1 : Hid (InsZ (fun k => D k ∨ (w.heap.size + 2 ≤ k ∧ k < w1.heap.size)) w1 l A1 vs) := Lib.hid (hI1.mono (fun k h => .inr (by (try rw [hw0] at h); omega)))
       have k0 := cell_of_heap HK1.out 0
       have k1 := cell_of_heap HK1.out 1
       have k2 := cell_of_heap HK1.out 2
       clear hX1 hI1 hb1 hb1' hw0)
    | (go_simp; go_at_call 54
       have hcn := create_new (c := c1) HX1.out HRC.out HI1.out HC.out HF.out HL.out HU.out.2.1 HU.out.1
       rw [← HHD.out] at hcn
       refine hcn.mono ?_
       rintro y w2 ⟨rfl, rr, hrr, hst⟩
       have HRR := Lib.hid hrr
       have HRX := HR1
       have HST := Lib.hid hst
       have HR2 : Hid (w2.heap[w.heap.size + 1]? = some (.cells #[.int .i64 0, .int .i64 0, .slice none 0 0] 60 (0, 0))) := Lib.hid (by
         obtain ⟨M', D', _, hc, _⟩ := hst
         exact heap_chg HRX.out hc (fun hM => absurd (HX.out.lt hM) (by omega)))
       have r0 := cell_of_heap HR2.out 0
       have r1 := cell_of_heap HR2.out 1
       have r2 := cell_of_heap HR2.out 2
       have f0 := free_of_heap HR2.out 0
       have f1 := free_of_heap HR2.out 1
       have f2 := free_of_heap HR2.out 2
       clear hst hrr)
    | (go_at_call 37
       refine (zzErr_nil _).mono ?_
       rintro y w3 ⟨rfl, rfl⟩))
  obtain ⟨W, hW⟩ : ∃ W, W = ((((w2.setCell ⟨w.heap.size + 1, 1, none⟩ (.int .i64 hd)).setCell ⟨w.heap.size + 1, 0, none⟩ (.int .i64 0)).setCell ⟨w.heap.size + 1, 0, none⟩ (.int .i64 0)).setCell ⟨w.heap.size + 1, 1, none⟩ (.int .i64 hd)).setCell ⟨w.heap.size + 1, 2, none⟩ (.slice none 0 0) := ⟨_, rfl⟩
  rw [← hW]
  have hh : W.heap[w.heap.size + 1]? = some (.cells #[.int .i64 0, .int .i64 hd, .slice none 0 0] 60 (0, 0)) := by rw [hW, heap_setCell_at, heap_setCell_at, heap_setCell_at, heap_setCell_at, heap_setCell_at, HR2.out]; rfl
  have d0 : W.cell? ⟨w.heap.size + 1, 0, none⟩ = some (.int .i64 0) := cell_of_heap hh 0
  have d1 : W.cell? ⟨w.heap.size + 1, 1, none⟩ = some (.int .i64 hd) := cell_of_heap hh 1
  have d2 : W.cell? ⟨w.heap.size + 1, 2, none⟩ = some (.slice none 0 0) := cell_of_heap hh 2
  have hc : Chg (fun k => k = w.heap.size + 1) w2 W := hW ▸ (((((Chg.refl (fun k => k = w.heap.size + 1) w2).setCell (p := ⟨w.heap.size + 1, _, none⟩) (.inl rfl) _).setCell (p := ⟨w.heap.size + 1, _, none⟩) (.inl rfl) _).setCell (p := ⟨w.heap.size + 1, _, none⟩) (.inl rfl) _).setCell (p := ⟨w.heap.size + 1, _, none⟩) (.inl rfl) _).setCell (p := ⟨w.heap.size + 1, _, none⟩) (.inl rfl) _
  refine leaves_cons (f := 36) (args := #[.pointer (some ⟨w.heap.size + 1, 0, none⟩)]) (by simp) (by simp [go_sem]) ?_
  refine (fault_idle _ _).mono ?_
  rintro e u' w'' ⟨rfl, rfl, rfl⟩
  simp [Leaves, settle, results, Tryz.results31, go_sem, d0, d1, d2]
  exact mdeed_plain (e := 0) (h := hd) HX.out HB1.out rfl (by omega) (fun k h => .inl h) (fun k h => h.imp id (fun h => by omega)) HST.out hc (by have := HS.out.new HRC.out rr; rw [HRR.out, ← HHD.out] at this; exact this) (by have h1 : c.1.rcy = [] := (by rw [← HS.out.cur]; exact HRC.out); have h2 : c.1.data.length = hd := (by rw [← HS.out.cur, HHD.out]; simp [MSt.to]); simp [ans, madeAt, h1, h2])

set_option maxRecDepth 100000 in
set_option maxHeartbeats 3200000 in
theorem deed_rec {m n c0 : Nat} {A : Option Addr} {c : MC (List VV)} {s : MSt RV} {us : List (Un RV)} {ls : List (List (Un RV))} {M D : Nat → Prop} {w : World} (h : MemX m s (us :: ls) M D w) (hs : Sim RV.nil RV.l n s (us :: ls) c) (hn : n ≤ 90) {l : List VV} (hA : LAt w A l) (hcc : ConcL l) (hff : FitL l) (hl : l.length ≤ 1000) {hh0 : Int} {hs9 : List Nat} {hd : Nat} (hr : s.rcy = hs9 ++ [hd]) :
    Calls Tryz.prog 31 #[.pointer (some ⟨m, 0, none⟩), .agg #[.string ⟨#[99, 114, 101, 97, 116, 101]⟩, .int .i64 hh0, .slice A l.length c0]] w (MDeedP m n c (.create l) M D w) := by
  have HX := Lib.hid h
  have HS := Lib.hid hs
  have hln := hs.len
  have hsum := hs.sum
  have hbd := hs.bd.d
  have hbr := hs.bd.r
  have hu1 : us.length ≤ 1000 := by simp at hsum; omega
  have HU := Lib.hid (And.intro hu1 (And.intro (show s.data.length ≤ 1000 by omega) (show s.rcy.length ≤ 1000 by omega)))
  have HI : Hid (∀ w', Below w.heap.size w w' → Calls Tryz.prog 39 #[.slice A l.length c0] w' (InsP3 l w')) := Lib.hid (fun w' hb => ins3_all l A c0 w' (hA.below hb) hcc.good (by omega))
  have HC := Lib.hid hcc
  have HF := Lib.hid hff
  have HL := Lib.hid hl
  have HRC := Lib.hid hr
  have HLT : Hid (hd < s.data.length) := Lib.hid (List.getElem?_eq_some_iff.1 (hs.good.free hd (by rw [hr]; simp)).2).1
  clear hr
  clear h hs hln hsum hbd hbr hn hu1 hA hcc hff hl
  go_enter_defers Tryz.func31, Tryz.ntmps31
  go_wp2_with fail
  obtain ⟨W0, hW0⟩ : ∃ W0, W0 = (w.alloc (.cells #[.string ⟨#[99, 114, 101, 97, 116, 101]⟩, .int .i64 hh0, .slice A l.length c0] 34)).alloc (.cells #[.int .i64 0, .int .i64 0, .slice none 0 0] 60) := ⟨_, rfl⟩
  rw [← hW0]
  have HK0 : Hid (W0.heap[w.heap.size]? = some (.cells #[.string ⟨#[99, 114, 101, 97, 116, 101]⟩, .int .i64 hh0, .slice A l.length c0] 34 (0, 0))) := Lib.hid (by rw [hW0]; exact (heap_alloc_ne _ _ _ (by simp)).trans (heap_new w _))
  have HR0 : Hid (W0.heap[w.heap.size + 1]? = some (.cells #[.int .i64 0, .int .i64 0, .slice none 0 0] 60 (0, 0))) := Lib.hid (by rw [hW0]; have := heap_new (w.alloc (.cells #[.string ⟨#[99, 114, 101, 97, 116, 101]⟩, .int .i64 hh0, .slice A l.length c0] 34)) (.cells #[.int .i64 0, .int .i64 0, .slice none 0 0] 60); simpa using this)
  have HB0 : Hid (Below w.heap.size w W0) := Lib.hid (hW0 ▸ below_mdeed w _ _)
  have HX0 := Lib.hid (HX.out.below HB0.out)
  have hs0 : W0.heap.size = w.heap.size + 2 := by rw [hW0]; simp
  have j0 := cell_of_heap HK0.out 0
  have j1 := cell_of_heap HK0.out 1
  have j2 := cell_of_heap HK0.out 2
  have g0 := cell_of_heap HR0.out 0
  have g1 := cell_of_heap HR0.out 1
  have g2 := cell_of_heap HR0.out 2
  clear hW0
  go_wp2_with (first
    | (go_simp; go_at_call 39
       refine (HI.out _ (by first | exact HB0.out | exact HB0.out.drew)).mono ?_
       rintro y w1 ⟨A1, c1, vs, rfl, hb1', hI1⟩
       have hb1 : Below W0.heap.size W0 w1 := (by first | exact hb1' | exact ⟨hb1'.os, hb1'.tape, hb1'.output, hb1'.size, hb1'.block⟩)
       have HK1 := Lib.hid (heap_below HK0.out hb1)
       have HR1 := Lib.hid (heap_below HR0.out hb1)
       have HB1 : Hid (Below w.heap.size w w1) := Lib.hid (up_below HB0.out (Nat.le_refl _) hb1)
       have hs1 : w.heap.size + 2 ≤ w1.heap.size := lt_of_heap HR1.out
       have hX1 : MemX m s (us :: ls) M (fun k => D k ∨ (w.heap.size + 2 ≤ k ∧ k < w1.heap.size)) w1 := (HX.out.below HB1.out).more (fun k h => .inl h) (fun k hk => by
         rcases hk with hk | hk
         · exact ⟨Nat.lt_of_lt_of_le (HX.out.dat k hk).1 HB1.out.size, (HX.out.dat k hk).2⟩
         · exact ⟨hk.2, fun hM => by have := HX.out.lt hM; omega⟩)
       have HX1 := Lib.hid hX1
       have hw0 : W0.drew.heap.size = W0.heap.size := rfl
       have HI1 : Hid (InsZ (fun k => D k ∨ (w.heap.size + 2 ≤ k ∧ k < w1.heap.size)) w1 l A1 vs) := Lib.hid (hI1.mono (fun k h => .inr (by (try rw [hw0] at h); omega)))
       have k0 := cell_of_heap HK1.out 0
       have k1 := cell_of_heap HK1.out 1
       have k2 := cell_of_heap HK1.out 2
       clear hX1 hI1 hb1 hb1' hw0)
    | (go_simp; go_at_call 54
       refine (create_rec HX1.out HRC.out HLT.out HI1.out HC.out HF.out HL.out HU.out.2.1 HU.out.1 HU.out.2.2).mono ?_
       rintro y w2 ⟨rfl, rr, hrr, hst⟩
       have HRR := Lib.hid hrr
       have HRX := HR1
       have HST := Lib.hid hst
       have HR2 : Hid (w2.heap[w.heap.size + 1]? = some (.cells #[.int .i64 0, .int .i64 0, .slice none 0 0] 60 (0, 0))) := Lib.hid (by
         obtain ⟨M', D', _, hc, _⟩ := hst
         exact heap_chg HRX.out hc (fun hM => absurd (HX.out.lt hM) (by omega)))
       have r0 := cell_of_heap HR2.out 0
       have r1 := cell_of_heap HR2.out 1
       have r2 := cell_of_heap HR2.out 2
       have f0 := free_of_heap HR2.out 0
       have f1 := free_of_heap HR2.out 1
       have f2 := free_of_heap HR2.out 2
       clear hst hrr)
    | (go_at_call 37
       refine (zzErr_nil _).mono ?_
       rintro y w3 ⟨rfl, rfl⟩))
  obtain ⟨W, hW⟩ : ∃ W, W = ((((w2.setCell ⟨w.heap.size + 1, 1, none⟩ (.int .i64 hd)).setCell ⟨w.heap.size + 1, 0, none⟩ (.int .i64 0)).setCell ⟨w.heap.size + 1, 0, none⟩ (.int .i64 0)).setCell ⟨w.heap.size + 1, 1, none⟩ (.int .i64 hd)).setCell ⟨w.heap.size + 1, 2, none⟩ (.slice none 0 0) := ⟨_, rfl⟩
  rw [← hW]
  have hh : W.heap[w.heap.size + 1]? = some (.cells #[.int .i64 0, .int .i64 hd, .slice none 0 0] 60 (0, 0)) := by rw [hW, heap_setCell_at, heap_setCell_at, heap_setCell_at, heap_setCell_at, heap_setCell_at, HR2.out]; rfl
  have d0 : W.cell? ⟨w.heap.size + 1, 0, none⟩ = some (.int .i64 0) := cell_of_heap hh 0
  have d1 : W.cell? ⟨w.heap.size + 1, 1, none⟩ = some (.int .i64 hd) := cell_of_heap hh 1
  have d2 : W.cell? ⟨w.heap.size + 1, 2, none⟩ = some (.slice none 0 0) := cell_of_heap hh 2
  have hc : Chg (fun k => k = w.heap.size + 1) w2 W := hW ▸ (((((Chg.refl (fun k => k = w.heap.size + 1) w2).setCell (p := ⟨w.heap.size + 1, _, none⟩) (.inl rfl) _).setCell (p := ⟨w.heap.size + 1, _, none⟩) (.inl rfl) _).setCell (p := ⟨w.heap.size + 1, _, none⟩) (.inl rfl) _).setCell (p := ⟨w.heap.size + 1, _, none⟩) (.inl rfl) _).setCell (p := ⟨w.heap.size + 1, _, none⟩) (.inl rfl) _
  refine leaves_cons (f := 36) (args := #[.pointer (some ⟨w.heap.size + 1, 0, none⟩)]) (by simp) (by simp [go_sem]) ?_
  refine (fault_idle _ _).mono ?_
  rintro e u' w'' ⟨rfl, rfl, rfl⟩
  simp [Leaves, settle, results, Tryz.results31, go_sem, d0, d1, d2]
  exact mdeed_plain (e := 0) (h := hd) HX.out HB1.out rfl (by omega) (fun k h => .inl h) (fun k h => h.imp id (fun h => by omega)) HST.out hc (by have := HS.out.recy HRC.out rr; rw [HRR.out] at this; exact this) (by have h1 : c.1.rcy = hs9 ++ [hd] := (by rw [← HS.out.cur]; exact HRC.out); simp [ans, madeAt, h1])

end Go.Proofs.YtffgkocokkhahaaGreatDoor

/- impl.memDeed: "update", "delete". -/
namespace Go.Proofs.YtffgkocokkhahaaGreatDoor
open Go.RowKit

set_option maxRecDepth 100000 in
set_option maxHeartbeats 3200000 in
theorem deed_update {m n c0 : Nat} {A : Option Addr} {c : MC (List VV)} {s : MSt RV} {us : List (Un RV)} {ls : List (List (Un RV))} {M D : Nat → Prop} {w : World} (h : MemX m s (us :: ls) M D w) (hs : Sim RV.nil RV.l n s (us :: ls) c) (hn : n ≤ 90) {l : List VV} (hA : LAt w A l) (hcc : ConcL l) (hff : FitL l) (hl : l.length ≤ 1000) {hd : Nat} {oo : RV} (ho : s.data[hd]? = some oo) (hnf : hd ∉ s.rcy) :
    Calls Tryz.prog 31 #[.pointer (some ⟨m, 0, none⟩), .agg #[.string ⟨#[117, 112, 100, 97, 116, 101]⟩, .int .i64 hd, .slice A l.length c0]] w (MDeedP m n c (.update hd l) M D w) := by
  have HX := Lib.hid h
  have HS := Lib.hid hs
  have hln := hs.len
  have hsum := hs.sum
  have hbd := hs.bd.d
  have hbr := hs.bd.r
  have hu1 : us.length ≤ 1000 := by simp at hsum; omega
  have HU := Lib.hid (And.intro hu1 (And.intro (show s.data.length ≤ 1000 by omega) (show s.rcy.length ≤ 1000 by omega)))
  have HI : Hid (∀ w', Below w.heap.size w w' → Calls Tryz.prog 39 #[.slice A l.length c0] w' (InsP3 l w')) := Lib.hid (fun w' hb => ins3_all l A c0 w' (hA.below hb) hcc.good (by omega))
  have HC := Lib.hid hcc
  have HF := Lib.hid hff
  have HL := Lib.hid hl
  have HO := Lib.hid ho
  have HNF := Lib.hid hnf
  clear ho hnf
  clear h hs hln hsum hbd hbr hn hu1 hA hcc hff hl
  go_enter_defers Tryz.func31, Tryz.ntmps31
  go_wp2_with fail
  obtain ⟨W0, hW0⟩ : ∃ W0, W0 = (w.alloc (.cells #[.string ⟨#[117, 112, 100, 97, 116, 101]⟩, .int .i64 hd, .slice A l.length c0] 34)).alloc (.cells #[.int .i64 0, .int .i64 0, .slice none 0 0] 60) := ⟨_, rfl⟩
  rw [← hW0]
  have HK0 : Hid (W0.heap[w.heap.size]? = some (.cells #[.string ⟨#[117, 112, 100, 97, 116, 101]⟩, .int .i64 hd, .slice A l.length c0] 34 (0, 0))) := Lib.hid (by rw [hW0]; exact (heap_alloc_ne _ _ _ (by simp)).trans (heap_new w _))
  have HR0 : Hid (W0.heap[w.heap.size + 1]? = some (.cells #[.int .i64 0, .int .i64 0, .slice none 0 0] 60 (0, 0))) := Lib.hid (by rw [hW0]; have := heap_new (w.alloc (.cells #[.string ⟨#[117, 112, 100, 97, 116, 101]⟩, .int .i64 hd, .slice A l.length c0] 34)) (.cells #[.int .i64 0, .int .i64 0, .slice none 0 0] 60); simpa using this)
  have HB0 : Hid (Below w.heap.size w W0) := Lib.hid (hW0 ▸ below_mdeed w _ _)
  have HX0 := Lib.hid (HX.out.below HB0.out)
  have hs0 : W0.heap.size = w.heap.size + 2 := by rw [hW0]; simp
  have j0 := cell_of_heap HK0.out 0
  have j1 := cell_of_heap HK0.out 1
  have j2 := cell_of_heap HK0.out 2
  have g0 := cell_of_heap HR0.out 0
  have g1 := cell_of_heap HR0.out 1
  have g2 := cell_of_heap HR0.out 2
  clear hW0
  refine wp_region_noPanic ?_
  go_region_law
    (first
      | (go_simp; go_at_call 39
         refine (HI.out _ (by first | exact HB0.out | exact HB0.out.drew)).mono ?_
         rintro y w1 ⟨A1, c1, vs, rfl, hb1', hI1⟩
         have hb1 : Below W0.heap.size W0 w1 := (by first | exact hb1' | exact ⟨hb1'.os, hb1'.tape, hb1'.output, hb1'.size, hb1'.block⟩)
         have HK1 := Lib.hid (heap_below HK0.out hb1)
         have HR1 := Lib.hid (heap_below HR0.out hb1)
         have HB1 : Hid (Below w.heap.size w w1) := Lib.hid (up_below HB0.out (Nat.le_refl _) hb1)
         have hs1 : w.heap.size + 2 ≤ w1.heap.size := lt_of_heap HR1.out
         have hX1 : MemX m s (us :: ls) M (fun k => D k ∨ (w.heap.size + 2 ≤ k ∧ k < w1.heap.size)) w1 := (HX.out.below HB1.out).more (fun k h => .inl h) (fun k hk => by
           rcases hk with hk | hk
           · exact ⟨Nat.lt_of_lt_of_le (HX.out.dat k hk).1 HB1.out.size, (HX.out.dat k hk).2⟩
           · exact ⟨hk.2, fun hM => by have := HX.out.lt hM; omega⟩)
         have HX1 := Lib.hid hX1
         have hw0 : W0.drew.heap.size = W0.heap.size := rfl
         have HI1 : Hid (InsZ (fun k => D k ∨ (w.heap.size + 2 ≤ k ∧ k < w1.heap.size)) w1 l A1 vs) := Lib.hid (hI1.mono (fun k h => .inr (by (try rw [hw0] at h); omega)))
         have k0 := cell_of_heap HK1.out 0
         have k1 := cell_of_heap HK1.out 1
         have k2 := cell_of_heap HK1.out 2
         clear hX1 hI1 hb1 hb1' hw0)
      | (go_simp; go_at_call 57
         refine (update_any HX1.out HO.out HI1.out HC.out HF.out HL.out HU.out.2.1 HU.out.1).mono ?_
         rintro y w2 ⟨rfl, rr, hrr, hst⟩
         have HRR := Lib.hid hrr
         have HRX := HR1
         have HST := Lib.hid hst
         have HR2 : Hid (w2.heap[w.heap.size + 1]? = some (.cells #[.int .i64 0, .int .i64 0, .slice none 0 0] 60 (0, 0))) := Lib.hid (by
           obtain ⟨M', D', _, hc, _⟩ := hst
           exact heap_chg HRX.out hc (fun hM => absurd (HX.out.lt hM) (by omega)))
         have r0 := cell_of_heap HR2.out 0
         have r1 := cell_of_heap HR2.out 1
         have r2 := cell_of_heap HR2.out 2
         have f0 := free_of_heap HR2.out 0
         have f1 := free_of_heap HR2.out 1
         have f2 := free_of_heap HR2.out 2
         clear hst hrr))
  all_goals
    refine NoPanic.normal ?_
    go_wp2_with (go_at_call 37
                 refine (zzErr_nil _).mono ?_
                 rintro y w3 ⟨rfl, rfl⟩)
    obtain ⟨W, hW⟩ : ∃ W, W = (((w2.setCell ⟨w.heap.size + 1, 0, none⟩ (.int .i64 0)).setCell ⟨w.heap.size + 1, 0, none⟩ (.int .i64 0)).setCell ⟨w.heap.size + 1, 1, none⟩ (.int .i64 0)).setCell ⟨w.heap.size + 1, 2, none⟩ (.slice none 0 0) := ⟨_, rfl⟩
    rw [← hW]
    have hh : W.heap[w.heap.size + 1]? = some (.cells #[.int .i64 0, .int .i64 0, .slice none 0 0] 60 (0, 0)) := by rw [hW, heap_setCell_at, heap_setCell_at, heap_setCell_at, heap_setCell_at, HR2.out]; rfl
    have d0 : W.cell? ⟨w.heap.size + 1, 0, none⟩ = some (.int .i64 0) := cell_of_heap hh 0
    have d1 : W.cell? ⟨w.heap.size + 1, 1, none⟩ = some (.int .i64 0) := cell_of_heap hh 1
    have d2 : W.cell? ⟨w.heap.size + 1, 2, none⟩ = some (.slice none 0 0) := cell_of_heap hh 2
    have hc : Chg (fun k => k = w.heap.size + 1) w2 W := hW ▸ ((((Chg.refl (fun k => k = w.heap.size + 1) w2).setCell (p := ⟨w.heap.size + 1, _, none⟩) (.inl rfl) _).setCell (p := ⟨w.heap.size + 1, _, none⟩) (.inl rfl) _).setCell (p := ⟨w.heap.size + 1, _, none⟩) (.inl rfl) _).setCell (p := ⟨w.heap.size + 1, _, none⟩) (.inl rfl) _
    refine leaves_cons (f := 36) (args := #[.pointer (some ⟨w.heap.size + 1, 0, none⟩)]) (by simp) (by simp [go_sem]) ?_
    refine (fault_idle _ _).mono ?_
    rintro e u' w'' ⟨rfl, rfl, rfl⟩
    simp [Leaves, settle, results, Tryz.results31, go_sem, d0, d1, d2]
    exact mdeed_plain (e := 0) (h := 0) HX.out HB1.out rfl (by omega) (fun k h => .inl h) (fun k h => h.imp id (fun h => by omega)) HST.out hc (by have := HS.out.upd HO.out HNF.out rr; rw [HRR.out] at this; exact this) rfl

set_option maxRecDepth 100000 in
set_option maxHeartbeats 3200000 in
theorem deed_delete {m n nn c0 : Nat} {A : Option Addr} {c : MC (List VV)} {s : MSt RV} {us : List (Un RV)} {ls : List (List (Un RV))} {M D : Nat → Prop} {w : World} (h : MemX m s (us :: ls) M D w) (hs : Sim RV.nil RV.l n s (us :: ls) c) (hn : n ≤ 90) {hd : Nat} {oo : RV} (ho : s.data[hd]? = some oo) (h2 : 2 ≤ hd) (hnf : hd ∉ s.rcy) :
    Calls Tryz.prog 31 #[.pointer (some ⟨m, 0, none⟩), .agg #[.string ⟨#[100, 101, 108, 101, 116, 101]⟩, .int .i64 hd, .slice A nn c0]] w (MDeedP m n c (.delete hd) M D w) := by
  have HX := Lib.hid h
  have HS := Lib.hid hs
  have hln := hs.len
  have hsum := hs.sum
  have hbd := hs.bd.d
  have hbr := hs.bd.r
  have hu1 : us.length ≤ 1000 := by simp at hsum; omega
  have HU := Lib.hid (And.intro hu1 (And.intro (show s.data.length ≤ 1000 by omega) (show s.rcy.length ≤ 1000 by omega)))
  have HO := Lib.hid ho
  have HNF := Lib.hid hnf
  have H2 := Lib.hid h2
  clear h hs hln hsum hbd hbr hn hu1 ho hnf h2
  go_enter_defers Tryz.func31, Tryz.ntmps31
  go_wp2_with fail
  obtain ⟨W0, hW0⟩ : ∃ W0, W0 = (w.alloc (.cells #[.string ⟨#[100, 101, 108, 101, 116, 101]⟩, .int .i64 hd, .slice A nn c0] 34)).alloc (.cells #[.int .i64 0, .int .i64 0, .slice none 0 0] 60) := ⟨_, rfl⟩
  rw [← hW0]
  have HK0 : Hid (W0.heap[w.heap.size]? = some (.cells #[.string ⟨#[100, 101, 108, 101, 116, 101]⟩, .int .i64 hd, .slice A nn c0] 34 (0, 0))) := Lib.hid (by rw [hW0]; exact (heap_alloc_ne _ _ _ (by simp)).trans (heap_new w _))
  have HR0 : Hid (W0.heap[w.heap.size + 1]? = some (.cells #[.int .i64 0, .int .i64 0, .slice none 0 0] 60 (0, 0))) := Lib.hid (by rw [hW0]; have := heap_new (w.alloc (.cells #[.string ⟨#[100, 101, 108, 101, 116, 101]⟩, .int .i64 hd, .slice A nn c0] 34)) (.cells #[.int .i64 0, .int .i64 0, .slice none 0 0] 60); simpa using this)
  have HB0 : Hid (Below w.heap.size w W0) := Lib.hid (hW0 ▸ below_mdeed w _ _)
  have HX0 := Lib.hid (HX.out.below HB0.out)
  have hs0 : W0.heap.size = w.heap.size + 2 := by rw [hW0]; simp
  have j0 := cell_of_heap HK0.out 0
  have j1 := cell_of_heap HK0.out 1
  have j2 := cell_of_heap HK0.out 2
  have g0 := cell_of_heap HR0.out 0
  have g1 := cell_of_heap HR0.out 1
  have g2 := cell_of_heap HR0.out 2
  clear hW0
  go_wp2_with (first
    | (go_simp; go_at_call 58
       refine (delete_any HX0.out HO.out HU.out.2.1 HU.out.1 HU.out.2.2).mono ?_
       rintro y w2 ⟨rfl, hst⟩
       have HRX := HR0
       have HST := Lib.hid hst
       have HR2 : Hid (w2.heap[w.heap.size + 1]? = some (.cells #[.int .i64 0, .int .i64 0, .slice none 0 0] 60 (0, 0))) := Lib.hid (by
         obtain ⟨M', D', _, hc, _⟩ := hst
         exact heap_chg HRX.out hc (fun hM => absurd (HX.out.lt hM) (by omega)))
       have r0 := cell_of_heap HR2.out 0
       have r1 := cell_of_heap HR2.out 1
       have r2 := cell_of_heap HR2.out 2
       have f0 := free_of_heap HR2.out 0
       have f1 := free_of_heap HR2.out 1
       have f2 := free_of_heap HR2.out 2
       clear hst)
    | (go_at_call 37
       refine (zzErr_nil _).mono ?_
       rintro y w3 ⟨rfl, rfl⟩))
  obtain ⟨W, hW⟩ : ∃ W, W = (((w2.setCell ⟨w.heap.size + 1, 0, none⟩ (.int .i64 0)).setCell ⟨w.heap.size + 1, 0, none⟩ (.int .i64 0)).setCell ⟨w.heap.size + 1, 1, none⟩ (.int .i64 0)).setCell ⟨w.heap.size + 1, 2, none⟩ (.slice none 0 0) := ⟨_, rfl⟩
  rw [← hW]
  have hh : W.heap[w.heap.size + 1]? = some (.cells #[.int .i64 0, .int .i64 0, .slice none 0 0] 60 (0, 0)) := by rw [hW, heap_setCell_at, heap_setCell_at, heap_setCell_at, heap_setCell_at, HR2.out]; rfl
  have d0 : W.cell? ⟨w.heap.size + 1, 0, none⟩ = some (.int .i64 0) := cell_of_heap hh 0
  have d1 : W.cell? ⟨w.heap.size + 1, 1, none⟩ = some (.int .i64 0) := cell_of_heap hh 1
  have d2 : W.cell? ⟨w.heap.size + 1, 2, none⟩ = some (.slice none 0 0) := cell_of_heap hh 2
  have hc : Chg (fun k => k = w.heap.size + 1) w2 W := hW ▸ ((((Chg.refl (fun k => k = w.heap.size + 1) w2).setCell (p := ⟨w.heap.size + 1, _, none⟩) (.inl rfl) _).setCell (p := ⟨w.heap.size + 1, _, none⟩) (.inl rfl) _).setCell (p := ⟨w.heap.size + 1, _, none⟩) (.inl rfl) _).setCell (p := ⟨w.heap.size + 1, _, none⟩) (.inl rfl) _
  refine leaves_cons (f := 36) (args := #[.pointer (some ⟨w.heap.size + 1, 0, none⟩)]) (by simp) (by simp [go_sem]) ?_
  refine (fault_idle _ _).mono ?_
  rintro e u' w'' ⟨rfl, rfl, rfl⟩
  simp [Leaves, settle, results, Tryz.results31, go_sem, d0, d1, d2]
  exact mdeed_plain (e := 0) (h := 0) HX.out HB0.out rfl (by omega) (fun k h => h) (fun k h => .inl h) HST.out hc (HS.out.del HO.out H2.out HNF.out) rfl

end Go.Proofs.YtffgkocokkhahaaGreatDoor

/- impl.memDeed: "read". -/
namespace Go.Proofs.YtffgkocokkhahaaGreatDoor
open Go.RowKit

theorem MemX.own {m : Nat} {s : MSt RV} {ls : List (List (Un RV))} {M D : Nat → Prop} {w : World} (h : MemX m s ls M D w) : M m := by
  obtain ⟨dv, rv, p, S, _, h2⟩ := h.ex
  exact (h2 m).2 (.inl rfl)

theorem mread_fin {m n hd : Nat} {c : MC (List VV)} {s : MSt RV} {ls : List (List (Un RV))} {M D : Nat → Prop} {w W0 w1 w2 W : World} {oo : RV} {A : Option Addr} {cc : Nat} {us : List VV} (hX : MemX m s ls M D w) (hb0 : Below w.heap.size w W0) (hs0 : W0.heap.size = w.heap.size + 2) (hX1 : MemX m s ls M D w1) (hk1 : Chg (fun b => b = m) W0 w1)
    (hb2 : Below w1.heap.size w1 w2) (hown : w2.ownsRow w1.heap.size 57 5 (.slice A oo.l.length cc) oo.l.length (flat VV.cells us)) (hul : us.length = oo.l.length) (hout : ∀ (j : Nat) (x u : VV), oo.l[j]? = some x → us[j]? = some u → OutOf x u) (hW : Chg (fun k => k = w.heap.size + 1) w2 W)
    (hS : Sim RV.nil RV.l n s ls c) (ho : s.data[hd]? = some oo) : MDeedP m n c (.read hd) M D w (.returned (.agg #[.int .i64 0, .int .i64 0, .slice A oo.l.length cc])) W := by
  have h0 := hb0.size
  have h1 := hk1.size
  have h2 := hb2.size
  have h3 := hW.size
  have hMn : ∀ k, M k → k < w.heap.size := fun k hk => hX.lt hk
  have hDn : ∀ k, D k → k < w.heap.size := fun k hk => (hX.dat k hk).1
  have hX2 := (hX1.below hb2).chg hW (fun k hk e => by have := hMn k hk; omega) (fun k hk e => by have := hDn k hk; omega)
  have hkk : Chg M w W := (((Chg.of_below (S := M) hb0).next hk1 (fun b _ e => e ▸ hX.own)).next (Chg.of_below (S := M) hb2) (fun b _ h => h)).next hW (fun b hb e => by omega)
  refine ⟨⟨0, 0, .slice A oo.l.length cc, us⟩, s, ls, M, fun k => D k ∨ (w1.heap.size ≤ k ∧ k < w2.heap.size), rfl, ⟨rfl, rfl, ?_, ?_, ?_⟩, hX2.more (fun k h => .inl h) (fun k hk => ?_), hS.mono (by omega), hkk, fun k h => .inl h, fun k h => .inl h, fun k hk => hk.imp id (fun h => by omega), fun b hb => .inr ⟨own_ge hown hb, own_lt hown hb⟩⟩
  · show us.length = ((c.1.data[hd]?).getD []).length
    rw [← hS.cur]
    simp [MSt.to, ho, hul]
  · have := own_chg (own_mono hown (show w.heap.size ≤ w1.heap.size by omega)) hW (fun b hb e => by have := own_ge hown hb; omega)
    show W.ownsRow w.heap.size _ 5 _ us.length _
    rw [hul]
    exact this
  · intro j x u hx hu
    refine hout j x u ?_ hu
    have : (ans [] c (.read hd)).row = oo.l := by show (c.1.data[hd]?).getD [] = _; rw [← hS.cur]; simp [MSt.to, ho]
    rw [← this]
    exact hx
  · rcases hk with hk | hk
    · exact ⟨by have := hDn k hk; omega, (hX.dat k hk).2⟩
    · exact ⟨by omega, fun hm => by have := hMn k hm; omega⟩

set_option maxRecDepth 100000 in
set_option maxHeartbeats 3200000 in
theorem deed_read {m n nn c0 : Nat} {A : Option Addr} {c : MC (List VV)} {s : MSt RV} {ls : List (List (Un RV))} {M D : Nat → Prop} {w : World} (h : MemX m s ls M D w) (hs : Sim RV.nil RV.l n s ls c) (hn : n ≤ 90) {hd : Nat} {oo : RV} (ho : s.data[hd]? = some oo) (h2 : 2 ≤ hd) (hcc : ConcL oo.l) (hol : oo.l.length ≤ 1000) :
    Calls Tryz.prog 31 #[.pointer (some ⟨m, 0, none⟩), .agg #[.string ⟨#[114, 101, 97, 100]⟩, .int .i64 hd, .slice A nn c0]] w (MDeedP m n c (.read hd) M D w) := by
  have HX := Lib.hid h
  have HS := Lib.hid hs
  have hbd := hs.bd.d
  have HU := Lib.hid (And.intro (show 1 ≤ hd by omega) (show s.data.length ≤ 1000 by omega))
  have HO := Lib.hid ho
  have HC := Lib.hid hcc
  have HOL := Lib.hid hol
  clear h hs hbd hn ho h2 hcc hol
  go_enter_defers Tryz.func31, Tryz.ntmps31
  go_wp2_with fail
  obtain ⟨W0, hW0⟩ : ∃ W0, W0 = (w.alloc (.cells #[.string ⟨#[114, 101, 97, 100]⟩, .int .i64 hd, .slice A nn c0] 34)).alloc (.cells #[.int .i64 0, .int .i64 0, .slice none 0 0] 60) := ⟨_, rfl⟩
  rw [← hW0]
  have HK0 : Hid (W0.heap[w.heap.size]? = some (.cells #[.string ⟨#[114, 101, 97, 100]⟩, .int .i64 hd, .slice A nn c0] 34 (0, 0))) := Lib.hid (by rw [hW0]; exact (heap_alloc_ne _ _ _ (by simp)).trans (heap_new w _))
  have HR0 : Hid (W0.heap[w.heap.size + 1]? = some (.cells #[.int .i64 0, .int .i64 0, .slice none 0 0] 60 (0, 0))) := Lib.hid (by rw [hW0]; have := heap_new (w.alloc (.cells #[.string ⟨#[114, 101, 97, 100]⟩, .int .i64 hd, .slice A nn c0] 34)) (.cells #[.int .i64 0, .int .i64 0, .slice none 0 0] 60); simpa using this)
  have HB0 : Hid (Below w.heap.size w W0) := Lib.hid (hW0 ▸ below_mdeed w _ _)
  have HX0 := Lib.hid (HX.out.below HB0.out)
  have hs0 : W0.heap.size = w.heap.size + 2 := by rw [hW0]; simp
  have j0 := cell_of_heap HK0.out 0
  have j1 := cell_of_heap HK0.out 1
  have j2 := cell_of_heap HK0.out 2
  have g0 := cell_of_heap HR0.out 0
  have g1 := cell_of_heap HR0.out 1
  have g2 := cell_of_heap HR0.out 2
  clear hW0
  have HS0 := Lib.hid hs0
  clear hs0
  go_wp2_with (first
    | (go_simp; go_at_call 55
       refine (read_any HX0.out HO.out HU.out.1 HU.out.2 _).mono ?_
       rintro y w1 ⟨vs, rfl, hI, hx1, hk1⟩
       have HX1 := Lib.hid hx1
       have HK1 := Lib.hid hk1
       have HR1 : Hid (w1.heap[w.heap.size + 1]? = some (.cells #[.int .i64 0, .int .i64 0, .slice none 0 0] 60 (0, 0))) := Lib.hid (heap_chg HR0.out hk1 (fun e => by have := HX.out.lt HX.out.own; omega))
       have HOU := Lib.hid (outs_anyZ oo.l _ oo.l.length vs w1 hI.reads hI.rep (fun j x hx => HC.out.good j x hx) (by have := HOL.out; omega))
       clear hI hx1 hk1)
    | (go_simp; go_at_call 56
       refine HOU.out.mono ?_
       rintro y w2 ⟨A2, c2, us, rfl, hown, hul, hout, hb2⟩
       have HB2 := Lib.hid hb2
       have HOW := Lib.hid hown
       have HUL := Lib.hid hul
       have HOT := Lib.hid hout
       have HR2 : Hid (w2.heap[w.heap.size + 1]? = some (.cells #[.int .i64 0, .int .i64 0, .slice none 0 0] 60 (0, 0))) := Lib.hid (heap_below HR1.out hb2)
       have r0 := cell_of_heap HR2.out 0
       have r1 := cell_of_heap HR2.out 1
       have r2 := cell_of_heap HR2.out 2
       have f0 := free_of_heap HR2.out 0
       have f1 := free_of_heap HR2.out 1
       have f2 := free_of_heap HR2.out 2
       clear hown hul hout hb2)
    | (go_at_call 37
       refine (zzErr_nil _).mono ?_
       rintro y w3 ⟨rfl, rfl⟩))
  obtain ⟨W, hW⟩ : ∃ W, W = ((((w2.setCell ⟨w.heap.size + 1, 2, none⟩ (.slice A2 oo.l.length c2)).setCell ⟨w.heap.size + 1, 0, none⟩ (.int .i64 0)).setCell ⟨w.heap.size + 1, 0, none⟩ (.int .i64 0)).setCell ⟨w.heap.size + 1, 1, none⟩ (.int .i64 0)).setCell ⟨w.heap.size + 1, 2, none⟩ (.slice A2 oo.l.length c2) := ⟨_, rfl⟩
  rw [← hW]
  have hh : W.heap[w.heap.size + 1]? = some (.cells #[.int .i64 0, .int .i64 0, .slice A2 oo.l.length c2] 60 (0, 0)) := by rw [hW, heap_setCell_at, heap_setCell_at, heap_setCell_at, heap_setCell_at, heap_setCell_at, HR2.out]; rfl
  have d0 : W.cell? ⟨w.heap.size + 1, 0, none⟩ = some (.int .i64 0) := cell_of_heap hh 0
  have d1 : W.cell? ⟨w.heap.size + 1, 1, none⟩ = some (.int .i64 0) := cell_of_heap hh 1
  have d2 : W.cell? ⟨w.heap.size + 1, 2, none⟩ = some (.slice A2 oo.l.length c2) := cell_of_heap hh 2
  have hc : Chg (fun k => k = w.heap.size + 1) w2 W := hW ▸ (((((Chg.refl (fun k => k = w.heap.size + 1) w2).setCell (p := ⟨w.heap.size + 1, _, none⟩) (.inl rfl) _).setCell (p := ⟨w.heap.size + 1, _, none⟩) (.inl rfl) _).setCell (p := ⟨w.heap.size + 1, _, none⟩) (.inl rfl) _).setCell (p := ⟨w.heap.size + 1, _, none⟩) (.inl rfl) _).setCell (p := ⟨w.heap.size + 1, _, none⟩) (.inl rfl) _
  refine leaves_cons (f := 36) (args := #[.pointer (some ⟨w.heap.size + 1, 0, none⟩)]) (by simp) (by simp [go_sem]) ?_
  refine (fault_idle _ _).mono ?_
  rintro e u' w'' ⟨rfl, rfl, rfl⟩
  simp [Leaves, settle, results, Tryz.results31, go_sem, d0, d1, d2]
  exact mread_fin HX.out HB0.out HS0.out HX1.out HK1.out HB2.out HOW.out HUL.out HOT.out hc HS.out HO.out

end Go.Proofs.YtffgkocokkhahaaGreatDoor

/- impl.memDeed, any deed; what holds between the deeds of impl.Mem. -/
namespace Go.Proofs.YtffgkocokkhahaaGreatDoor
open Go.RowKit

/-- A row that a deed may bring. -/
structure MRow (l : List VV) : Prop where
  conc : ConcL l
  fit : FitL l
  len : l.length ≤ 1000

/-- A deed in memory is the plain one. -/
def MDV.is (d : MDV) : MD (List VV) → Prop
  | .begin => d.op = beginS
  | .commit => d.op = commitS
  | .rollback => d.op = rollbackS
  | .create l => d.op = mcreateS ∧ d.us = l ∧ MRow l
  | .update h l => d.op = updateS ∧ d.h = (h : Int) ∧ d.us = l ∧ MRow l
  | .delete h => d.op = deleteS ∧ d.h = (h : Int)
  | .read h => d.op = readS ∧ d.h = (h : Int)

/-- The errors that a store may tell. -/
structure ErrsOk (w : World) (a : Addr) : Prop where
  has : Has w a
  com : ∃ p, HasE w 1 a p
  rol : ∃ p, HasE w 2 a p

theorem ErrsOk.of {w w' : World} {a : Addr} (h : ErrsOk w a) (hb : Below w.heap.size w w') : ErrsOk w' a := by
  obtain ⟨h1, ⟨p, h2⟩, q, h3⟩ := h
  exact ⟨h1.of hb, ⟨p, h2.of hb⟩, q, h3.of hb⟩

theorem MemX.row {m : Nat} {s : MSt RV} {ls : List (List (Un RV))} {M D : Nat → Prop} {w : World} (h : MemX m s ls M D w) {hd : Nat} {o : RV} (ho : s.data[hd]? = some o) : o.ok D w := by
  obtain ⟨dv, rv, p, S, h1, _⟩ := h.ex
  exact h1.rows o (List.mem_of_getElem? ho)

theorem Sim.livee {R L : Type} {z : R} {f : R → L} {n : Nat} {s : MSt R} {ls : List (List (Un R))} {c : MC L} (h : Sim z f n s ls c) {x : Nat} (hl : Go.Proofs.YtffgkocokkhahaaGreatDoor.live c.1 x) : ∃ o, s.data[x]? = Option.some o ∧ x ∉ s.rcy := by
  have h1 := hl.2.1
  have h2 := hl.2.2
  rw [← h.cur] at h1 h2
  have h3 : x < s.data.length := by simpa [MSt.to] using h1
  exact ⟨s.data[x], List.getElem?_eq_getElem h3, h2⟩

theorem deed_any {m n : Nat} {c : MC (List VV)} {s : MSt RV} {ls : List (List (Un RV))} {M D : Nat → Prop} {w : World} {a : Addr} (h : MemX m s ls M D w) (hs : Sim RV.nil RV.l n s ls c) (hn : n ≤ 90) (he : ErrsOk w a) {d : MDV} {x : MD (List VV)} (hd : d.is x) (hok : okD c x) (hA : LAt w d.A d.us) :
    Calls Tryz.prog 31 #[.pointer (some ⟨m, 0, none⟩), .agg #[.string d.op, .int .i64 d.h, .slice d.A d.us.length d.c]] w (MDeedP m n c x M D w) := by
  obtain ⟨h1, ⟨p, h2⟩, q, h3⟩ := he
  obtain ⟨op, dh, A, dc, us0⟩ := d
  cases x with
  | begin =>
    obtain rfl : op = beginS := hd
    exact deed_begin h hs hn
  | commit =>
    obtain rfl : op = commitS := hd
    rcases ls with _ | ⟨u1, _ | ⟨u2, ls⟩⟩
    · exact deed_commit0 h hs h1 h2 hn
    · exact deed_commit1 h hs hn
    · exact deed_commit2 h hs hn
  | rollback =>
    obtain rfl : op = rollbackS := hd
    rcases ls with _ | ⟨u1, ls⟩
    · exact deed_rollback0 h hs h1 h3 hn
    · exact deed_rollback1 h hs hn
  | create l =>
    obtain ⟨e1, e2, hr⟩ := hd
    simp only at e1 e2
    subst e1 e2
    rcases ls with _ | ⟨u1, ls⟩
    · exact absurd hs.none hok
    · rcases List.eq_nil_or_concat s.rcy with e | ⟨hs9, y, e⟩
      · exact deed_new h hs hn hA hr.conc hr.fit hr.len e
      · rw [List.concat_eq_append] at e
        exact deed_rec h hs hn hA hr.conc hr.fit hr.len e
  | update k l =>
    obtain ⟨e1, e2, e3, hr⟩ := hd
    simp only at e1 e2 e3
    subst e1 e2 e3
    rcases ls with _ | ⟨u1, ls⟩
    · exact absurd hs.none hok.1
    · obtain ⟨o, ho, hno⟩ := hs.livee hok.2
      exact deed_update h hs hn hA hr.conc hr.fit hr.len ho hno
  | delete k =>
    obtain ⟨e1, e2⟩ := hd
    simp only at e1 e2
    subst e1 e2
    rcases ls with _ | ⟨u1, ls⟩
    · exact absurd hs.none hok.1
    · obtain ⟨o, ho, hno⟩ := hs.livee hok.2
      exact deed_delete h hs hn ho hok.2.1 hno
  | read k =>
    obtain ⟨e1, e2⟩ := hd
    simp only at e1 e2
    subst e1 e2
    obtain ⟨o, ho, _⟩ := hs.livee hok
    have hr := h.row ho
    exact deed_read h hs hn ho hok.1 hr.conc hr.len

/-- Deeds lie in memory, each with its row. -/
def MDeedsAt (w : World) (A : Option Addr) (ds : List MDV) : Prop :=
  ∀ (i : Nat) (d : MDV), ds[i]? = some d → (∃ ad, A = some ad ∧ (ad.add (i * 3)).block < w.heap.size ∧ w.cell? (ad.add (i * 3)) = some (.string d.op) ∧ w.cell? ⟨(ad.add (i * 3)).block, (ad.add (i * 3)).off + 1, none⟩ = some (.int .i64 d.h) ∧
    w.cell? ⟨(ad.add (i * 3)).block, (ad.add (i * 3)).off + 2, none⟩ = some (.slice d.A d.us.length d.c)) ∧ LAt w d.A d.us

theorem MDeedsAt.below {w w' : World} {A : Option Addr} {ds : List MDV} (h : MDeedsAt w A ds) (hb : Below w.heap.size w w') : MDeedsAt w' A ds := by
  intro i r hr
  obtain ⟨⟨ad, rfl, hlt, h0, h1, h2⟩, hl⟩ := h i r hr
  refine ⟨⟨ad, rfl, Nat.lt_of_lt_of_le hlt hb.size, ?_, ?_, ?_⟩, hl.below hb⟩
  all_goals (rw [hb.cell (by exact hlt)]; assumption)

theorem madd_off (a : Addr) (k j : Nat) (hj : j ≠ 0) : a.add (k + j) = ⟨(a.add k).block, (a.add k).off + j, none⟩ := by
  unfold Addr.add
  by_cases hk : k = 0
  · subst hk
    rw [if_neg (by omega), if_pos rfl, Nat.zero_add]
  · rw [if_neg (by omega), if_neg hk, Nat.add_assoc]

theorem mdeeds_reads {w : World} {A : Option Addr} {ds : List MDV} {n : Nat} (h : Reads w w.heap.size 3 A n (flat MDV.cells ds)) (hn : ds.length = n) (hv : ∀ d ∈ ds, LAt w d.A d.us) : MDeedsAt w A ds := by
  intro i r hr
  have hi := (List.getElem?_eq_some_iff.1 hr).1
  obtain ⟨ad, rfl, hlt, hc⟩ := h.2 (by omega)
  have hat : ∀ (j : Nat) (v : Value), j < 3 → r.cells[j]? = some v → w.cell? (ad.add (i * 3 + j)) = some v := fun j v hj hv => hc _ _ (flat_at MDV.cells 3 MDV.three ds i r j v hr hj hv)
  refine ⟨⟨ad, rfl, by rw [block_add]; exact hlt, hat 0 _ (by omega) rfl, ?_, ?_⟩, hv r (List.mem_of_getElem? hr)⟩
  · rw [← madd_off ad (i * 3) 1 (by decide)]; exact hat 1 _ (by omega) rfl
  · rw [← madd_off ad (i * 3) 2 (by decide)]; exact hat 2 _ (by omega) rfl

/-- The store of the start. -/
def c0M : MC (List VV) := (⟨[[], []], []⟩, [])

/-- Answers that are what the plain store tells. -/
def AnsAll (B : Nat) (w : World) (ds : List (MD (List VV))) (av : List MAV) : Prop := ∀ (j : Nat) (a : MAV) (x : MAn (List VV)), av[j]? = some a → (ansM [] c0M ds)[j]? = some x → AnsOk B w a x

structure MmLoop (ds : List (MD (List VV))) (m kk : Nat) (w wr : World) (r : Value) (av bs : List MAV) (M D : Nat → Prop) : Prop where
  own : wr.ownsRow w.heap.size 60 3 r av.length (flat MAV.cells av)
  st : ∃ s ls, MemX m s ls M D wr ∧ Sim RV.nil RV.l kk s ls (runM [] c0M (ds.take kk))
  ans : AnsAll w.heap.size wr ds bs
  in_ : ∀ a ∈ bs, ∀ b, a.R.ownBlock = some b → D b
  apart : ∀ b, r.ownBlock = some b → ¬ M b ∧ ¬ D b
  new : ∀ b, M b → w.heap.size ≤ b
  below : Below w.heap.size w wr

theorem ansM_at (z : List VV) : ∀ (ds : List (MD (List VV))) (c : MC (List VV)) (k : Nat) (d : MD (List VV)), ds[k]? = some d → (ansM z c ds)[k]? = some (ans z (runM z c (ds.take k)) d)
  | [], _, _, _, h => by simp at h
  | x :: ds, c, 0, d, h => by
    simp at h
    subst h
    simp [ansM, runM]
  | x :: ds, c, k + 1, d, h => by
    have := ansM_at z ds (nxt z c x) k d (by simpa using h)
    simpa [ansM, runM] using this

theorem take_snoc' {α : Type} {l : List α} {k : Nat} {d : α} (h : l[k]? = some d) : l.take (k + 1) = l.take k ++ [d] := by
  rw [List.take_add_one, h]
  rfl

variable {ds : List (MD (List VV))} {m kk : Nat} {w wr w2 w3 : World} {r : Value} {av bs : List MAV} {M D : Nat → Prop}

theorem MmLoop.under {w1 : World} (h : MmLoop ds m kk w wr r av bs M D) (hb : Below wr.heap.size wr w1) : MmLoop ds m kk w w1 r av bs M D := by
  have k0 : Chg (fun _ => False) wr w1 := Chg.of_below hb
  obtain ⟨s, ls, h1, h2⟩ := h.st
  exact ⟨own_chg h.own k0 (fun _ _ h => h), ⟨s, ls, h1.below hb, h2⟩, fun j a x ha hx => (h.ans j a x ha hx).chg k0 (fun _ _ h => h), h.in_, h.apart, h.new, up_below h.below (Nat.le_refl _) (by have := h.below.size; exact ⟨hb.os, hb.tape, hb.output, hb.size, fun i hi => hb.block i (by omega)⟩)⟩

theorem MmLoop.step {x : MD (List VV)} {y : Ending} (h : MmLoop ds m kk w wr r av av M D) (hkk : av.length = kk) (hx : ds[kk]? = some x) (hP : MDeedP m kk (runM [] c0M (ds.take kk)) x M D wr y w2) :
    ∃ a M' D', y = .returned (.agg #[.int .i64 (a : MAV).err, .int .i64 a.h, a.R]) ∧ (∃ A n c, a.R = .slice A n c) ∧ MmLoop ds m (kk + 1) w w2 r av (av ++ [a]) M' D' := by
  obtain ⟨a, s', ls', M', D', rfl, hao, hx', hsim, hc, hD, hM', hD', hRD⟩ := hP
  have hs := h.below.size
  obtain ⟨A', c', e⟩ := own_form hao.own
  have hDM : ∀ k, D k → ¬ M k := fun k hk => by obtain ⟨s, ls, h1, _⟩ := h.st; exact (h1.dat k hk).2
  refine ⟨a, M', D', rfl, ⟨_, _, _, e⟩, own_chg h.own hc (fun b hb => (h.apart b hb).1), ⟨s', ls', hx', ?_⟩, fun j b z hb hz => ?_, fun b hb => ?_, fun b hb => ?_, fun b hb => ?_, h.below.trans (hc.below hs h.new)⟩
  · rw [take_snoc' hx, runM_snoc]
    exact hsim
  · rcases Nat.lt_or_ge j av.length with h1 | h1
    · rw [List.getElem?_append_left h1] at hb
      exact (h.ans j b z hb hz).chg hc (fun k hk => hDM k (h.in_ b (List.mem_of_getElem? hb) k hk))
    · rw [List.getElem?_append_right h1] at hb
      cases hj0 : j - av.length with
      | zero =>
        rw [hj0] at hb
        obtain rfl := Option.some.inj hb
        have : j = kk := by omega
        subst this
        rw [ansM_at [] ds c0M j x hx] at hz
        obtain rfl := Option.some.inj hz
        exact hao.mono hs
      | succ i =>
        rw [hj0] at hb
        cases hb
  · rcases List.mem_append.1 hb with h1 | h1
    · exact fun k hk => hD k (h.in_ b h1 k hk)
    · obtain rfl := List.mem_singleton.1 h1
      exact hRD
  · have hlt := own_lt h.own hb
    exact ⟨fun hm => (hM' b hm).elim (h.apart b hb).1 (by omega), fun hd => (hD' b hd).elim (h.apart b hb).2 (by omega)⟩
  · exact (hM' b hb).elim (h.new b) (fun h1 => by omega)

theorem MmLoop.append {a : MAV} (h : MmLoop ds m kk w w2 r av (av ++ [a]) M D) {o : Obj} {v : Value} {n : Nat} (hn : n = av.length + 1) (hown : w3.ownsRow w.heap.size 60 3 v n (flat MAV.cells av ++ a.cells)) (hg : (w2.alloc o).grownBy w3 r.ownBlock)
    (hat : v.ownBlock = r.ownBlock ∨ v.ownBlock = some (w2.alloc o).heap.size) : MmLoop ds m kk w w3 v (av ++ [a]) (av ++ [a]) M D := by
  subst hn
  have hc : Chg (fun k => r.ownBlock = some k) w2 w3 := ((Chg.refl _ w2).alloc o).next (Chg.of_grown hg) (fun z _ h => h.symm)
  have hz : (w2.alloc o).heap.size = w2.heap.size + 1 := by simp
  obtain ⟨s, ls, h1, h2⟩ := h.st
  refine ⟨?_, ⟨s, ls, h1.chg hc (fun k hk e => (h.apart k e).1 hk) (fun k hk e => (h.apart k e).2 hk), h2⟩, fun j b z hb hz => (h.ans j b z hb hz).chg hc (fun k hk e => (h.apart k e).2 (h.in_ b (List.mem_of_getElem? hb) k hk)), h.in_, fun b hb => ?_, h.new, h.below.trans (hc.below h.below.size (fun k hk => own_ge h.own hk))⟩
  · rw [flat_append, List.length_append]
    simpa [flat] using hown
  · rcases hat with e | e
    · exact h.apart b (e ▸ hb)
    · rw [hb] at e
      have h3 := Option.some.inj e
      exact ⟨fun hm => by have := h1.lt hm; omega, fun hd => by have := (h1.dat b hd).1; omega⟩

theorem MmLoop.start {w1 : World} {M D : Nat → Prop} {r1 : RV} (hr : r1.l = []) (hX : MemX m ⟨[RV.nil, r1], []⟩ [] M D w1) (hM : ∀ k, M k → w.heap.size ≤ k) (hb : Below w.heap.size w w1) : MmLoop ds m 0 w w1 (.slice none 0 0) [] [] M D :=
  ⟨World.ownsRow_nil _ _ _ _, ⟨_, _, hX, ⟨⟨Nat.le_refl _, fun h hh => (by cases hh), List.nodup_nil⟩, ⟨Nat.le_refl _, Nat.le_refl _⟩, ⟨[], rfl, fun t ht => (by cases ht), rfl⟩, by simp [MSt.to, hr, runM, c0M, RV.nil], Nat.le_refl _, Nat.le_refl _⟩⟩, fun j a x ha => (by simp at ha), fun a ha => (by cases ha), fun b hb => (by cases hb), hM, hb⟩

end Go.Proofs.YtffgkocokkhahaaGreatDoor

/- impl.Mem: deeds to a new memory store. -/
namespace Go.Proofs.YtffgkocokkhahaaGreatDoor
open Go.RowKit

theorem info_mans : (Tryz.prog.info? 60).map (fun i => (i.zero, i.size, i.bytes)) = some (some (.agg #[.int .i64 0, .int .i64 0, .slice none 0 0]), 3, 40) := by kernel_rfl

theorem reads_mans (w : World) (e h : Int) (R : Value) (t : TypeId) : Reads (w.alloc (.cells #[.int .i64 e, .int .i64 h, R] t)) (w.heap.size + 1) 3 (some ⟨w.heap.size, 0, none⟩) 1 [.int .i64 e, .int .i64 h, R] :=
  ⟨rfl, fun _ => ⟨_, rfl, Nat.lt_succ_self _, fun j u hu => World.news_of_block (heap_new w _) j u hu⟩⟩

/-- What impl.Mem tells. -/
def MemP (ds : List (MD (List VV))) (w : World) (y : Ending) (w' : World) : Prop :=
  ∃ A c av, y = .returned (.slice A ds.length c) ∧ w'.ownsRow w.heap.size 60 3 (.slice A ds.length c) ds.length (flat MAV.cells av) ∧ av.length = ds.length ∧ AnsAll w.heap.size w' ds av ∧ Below w.heap.size w w'

def StepQ (ds : List (MD (List VV))) (m k : Nat) (w : World) (r : Value) (av : List MAV) (y : Ending) (w2 : World) : Prop :=
  ∃ a M' D', y = .returned (.agg #[.int .i64 (a : MAV).err, .int .i64 a.h, a.R]) ∧ (∃ A n c, a.R = .slice A n c) ∧ MmLoop ds m (k + 1) w w2 r av (av ++ [a]) M' D'

theorem mm_step {dv : List MDV} {ds : List (MD (List VV))} {A : Option Addr} {w : World} {a : Addr} (hlen : dv.length = ds.length) (his : ∀ (j : Nat) (d : MDV) (x : MD (List VV)), dv[j]? = some d → ds[j]? = some x → d.is x) (hok : okM [] c0M ds) (hn : ds.length ≤ 90) (he : ErrsOk w a) (hd : MDeedsAt w A dv)
    {m k : Nat} {wr : World} {r : Value} {av : List MAV} {M D : Nat → Prop} (h : MmLoop ds m k w wr r av av M D) (hk : av.length = k) {d : MDV} (hdk : dv[k]? = some d) (w' : World) (hb : Below wr.heap.size wr w') :
    Calls Tryz.prog 31 #[.pointer (some ⟨m, 0, none⟩), .agg #[.string d.op, .int .i64 d.h, .slice d.A d.us.length d.c]] w' (StepQ ds m k w r av) := by
  have hlt := (List.getElem?_eq_some_iff.1 hdk).1
  obtain ⟨x, hx⟩ : ∃ x, ds[k]? = some x := ⟨_, List.getElem?_eq_getElem (by omega)⟩
  obtain ⟨s, ls, hX, hS⟩ := (h.under hb).st
  have hbw : Below w.heap.size w w' := (h.under hb).below
  exact (deed_any hX hS (by omega) (he.of hbw) (his k d x hdk hx) (okM_at [] ds c0M k x hok hx) ((hd.below hbw) k d hdk).2).mono (fun y w2 hP => (h.under hb).step hk hx hP)

set_option maxRecDepth 100000 in
set_option maxHeartbeats 3200000 in
theorem mem_any {dv : List MDV} {ds : List (MD (List VV))} {A : Option Addr} {c : Nat} {w : World} {a : Addr} (hlen : dv.length = ds.length) (his : ∀ (j : Nat) (d : MDV) (x : MD (List VV)), dv[j]? = some d → ds[j]? = some x → d.is x) (hok : okM [] c0M ds) (hn : ds.length ≤ 90) (he : ErrsOk w a) (hd : MDeedsAt w A dv) :
    Calls Tryz.prog 19 #[.slice A ds.length c] w (MemP ds w) := by
  obtain ⟨i0, hi, hz0, hz1, hz2⟩ := info_parts info_mans
  unfold MemP
  obtain ⟨len, hlen1⟩ : ∃ len, len = ds.length := ⟨_, rfl⟩
  have HSTEP := Lib.hid (fun (m k : Nat) (wr : World) (r : Value) (av : List MAV) (M D : Nat → Prop) (h : MmLoop ds m k w wr r av av M D) (hk : av.length = k) (d : MDV) (hdk : dv[k]? = some d) (w' : World) (hb : Below wr.heap.size wr w') => mm_step hlen his hok hn he hd h hk hdk w' hb)
  have HD := Lib.hid hd
  have HN : Hid (len = dv.length) := Lib.hid (by omega)
  rw [← hlen1] at hn ⊢
  clear hd he his hok hlen hlen1
  go_enter Tryz.func19, Tryz.ntmps19
  go_wp2_with (go_at_call 30
               refine (zzNewMem_any _).mono ?_
               rintro y w1 ⟨m, M1, D1, rfl, ⟨r1, hr1, hX1⟩, hM1, hD1, hb1⟩
               have HL0 : Hid (MmLoop ds m 0 w w1 (.slice none 0 0) [] [] M1 D1) := Lib.hid (MmLoop.start hr1 hX1 hM1 hb1)
               clear hX1 hM1 hD1 hb1 hr1)
  go_loopw [5, 16] (fun rv i wr => ∃ (k : Nat) (av : List MAV) (M D : Nat → Prop), k ≤ len ∧ i = .int .i64 k ∧ av.length = k ∧ MmLoop ds m k w wr rv av av M D) (fun _ i _ => len - (intOf i).toNat)
  case atStart => exact ⟨0, [], M1, D1, by omega, rfl, rfl, HL0.out⟩
  case round =>
    obtain ⟨k, av, M, D, hk, rfl, hka, hL⟩ := hrel
    by_cases hlt : k < len
    · obtain ⟨d, hdk⟩ : ∃ d, dv[k]? = some d := ⟨_, List.getElem?_eq_getElem (by rw [← HN.out]; exact hlt)⟩
      obtain ⟨⟨ad, rfl, hbl, h0, h1, h2⟩, _⟩ := (HD.out.below hL.below) k d hdk
      have HC := Lib.hid (HSTEP.out m k _ _ av M D hL hka d hdk)
      have HKA := Lib.hid hka
      clear hL hdk hka
      go_wp2_with (first
        | (go_at_call 31
           refine (HC.out _ (by repeat (first | exact Below.refl _ _ | refine Below.setCell ?_ (Nat.le_refl _) _ | refine Below.alloc ?_ (Nat.le_refl _) _))).mono ?_
           rintro y w2 ⟨⟨ae, ah, R, us⟩, M', D', rfl, ⟨A2, n2, c2, hR⟩, hL⟩
           simp only at hR
           subst hR
           have HL := Lib.hid hL
           have HO := Lib.hid hL.own
           have hs2 := hL.below.size
           rw [HKA.out] at HO
           clear hL)
        | (at_builtin
           refine wpList_append_any _ rfl (.tmp 20) (.tmp 24) _ rfl w.heap.size 60 i0 _ 3 40 Tryz.underlying52 hi hz0 hz1 hz2 rfl (by omega) _ k (flat MAV.cells av) rfl
             (HO.out.alloc _) (w2.heap.size + 1) (some ⟨w2.heap.size, 0, none⟩) 1 1 [.int .i64 ae, .int .i64 ah, .slice A2 n2 c2] rfl (reads_mans _ _ _ _ _) (fun u hu => by simp at hu; rcases hu with rfl | rfl | rfl <;> rfl) (by simp only [maxLen]; omega) (by omega) (by simp; omega) ?_
           intro v3 w3 hown3 hg3 hat3
           have HO3 := Lib.hid hown3; have HG3 := Lib.hid hg3; have HA3 := Lib.hid hat3; clear hown3 hg3 hat3))
      exact ⟨⟨k + 1, av ++ [⟨ae, ah, .slice A2 n2 c2, us⟩], M', D', by omega, by push_cast; rfl, by simp [HKA.out], HL.out.append (by rw [HKA.out]) HO3.out HG3.out HA3.out⟩, by simp [intOf]; omega⟩
    · have hke : k = len := by omega
      subst hke
      have hO := hL.own
      rw [hka] at hO
      obtain ⟨A', c', rfl⟩ := own_form hO
      have HO := Lib.hid hO
      have HL := Lib.hid hL
      clear hO hL
      go_wp2
      go_ret
      exact ⟨A', c', av, rfl, HO.out, hka, HL.out.ans, HL.out.below⟩

end Go.Proofs.YtffgkocokkhahaaGreatDoor

/- laws.zzFits22, laws.zzFits21, laws.isMem. -/
namespace Go.Proofs.YtffgkocokkhahaaGreatDoor
open Go.RowKit

def fits22B (d : MDV) : Bool := decide (d.op.size ≤ 2147483647) && fits2B d.us
def fits21B (dv : List MDV) : Bool := decide (dv.length ≤ 2147483647) && dv.all fits22B

set_option maxHeartbeats 1000000 in
theorem zzFits22_any (d : MDV) (w : World) (hl : LAt w d.A d.us) :
    Calls Tryz.prog 17 #[.agg #[.string d.op, .int .i64 d.h, .slice d.A d.us.length d.c]] w fun e w' => e = .returned (.bool (fits22B d)) ∧ Below w.heap.size w w' := by
  obtain ⟨op, h, A, c, us⟩ := d
  simp only at hl ⊢
  have HF := Lib.hid (fun (b : Bool) (hb : fits2B us = b) (w' : World) (hw : Below w.heap.size w w') => show Calls Tryz.prog 28 #[.slice A us.length c] w' fun e w'' => e = .returned (.bool b) ∧ Below w'.heap.size w' w'' by rw [← hb]; exact zzFits2_any us A c w' (hl.below hw))
  clear hl
  by_cases hs : op.size ≤ 2147483647
  · cases hb : fits2B us with
    | false =>
      have e : fits22B ⟨op, h, A, c, us⟩ = false := by simp [fits22B, hb]
      rw [e]
      have HW := Lib.hid (HF.out false hb)
      clear e hb
      go_enter Tryz.func17, Tryz.ntmps17
      go_wp2_with (go_at_call 28; refine (HW.out _ ((Below.refl _ _).alloc (Nat.le_refl _) _)).mono ?_; rintro e w1 ⟨rfl, hb1⟩)
      go_ret
      exact ⟨rfl, up_below' ((Below.refl _ _).alloc (Nat.le_refl _) _) hb1⟩
    | true =>
      have e : fits22B ⟨op, h, A, c, us⟩ = true := by simp [fits22B, hb, hs]
      rw [e]
      have HW := Lib.hid (HF.out true hb)
      clear e hb
      go_enter Tryz.func17, Tryz.ntmps17
      go_wp2_with (go_at_call 28; refine (HW.out _ ((Below.refl _ _).alloc (Nat.le_refl _) _)).mono ?_; rintro e w1 ⟨rfl, hb1⟩)
      go_ret
      exact ⟨rfl, up_below' ((Below.refl _ _).alloc (Nat.le_refl _) _) hb1⟩
  · have hs' : 2147483647 < op.size := by omega
    have e : fits22B ⟨op, h, A, c, us⟩ = false := by simp [fits22B]; omega
    rw [e]
    clear e
    go_enter Tryz.func17, Tryz.ntmps17
    go_wp2
    go_ret
    exact ⟨rfl, (Below.refl _ _).alloc (Nat.le_refl _) _⟩

set_option maxHeartbeats 1000000 in
theorem zzFits21_any (dv : List MDV) (A : Option Addr) (c : Nat) (w : World) (hl : MDeedsAt w A dv) :
    Calls Tryz.prog 5 #[.slice A dv.length c] w fun e w' => e = .returned (.bool (fits21B dv)) ∧ Below w.heap.size w w' := by
  obtain ⟨len, hlen⟩ : ∃ len, len = dv.length := ⟨_, rfl⟩
  have HL := Lib.hid hl
  have HN := Lib.hid hlen
  rw [← hlen]
  have HB : Hid (2147483647 < len → fits21B dv = false) := fun h => by unfold fits21B; rw [← hlen]; simp; omega
  have HE : Hid (∀ (k : Nat) (x : MDV), dv[k]? = some x → fits22B x = false → fits21B dv = false) := fun k x hx hf => by
    unfold fits21B
    rw [Bool.and_eq_false_iff]
    right
    rw [List.all_eq_false]
    exact ⟨x, List.mem_of_getElem? hx, by rw [hf]; decide⟩
  have HY : Hid (len ≤ 2147483647 → (∀ j x, j < len → dv[j]? = some x → fits22B x = true) → fits21B dv = true) := fun h1 h2 => by
    unfold fits21B
    rw [Bool.and_eq_true, decide_eq_true_eq, List.all_eq_true]
    refine ⟨by omega, fun x hx => ?_⟩
    obtain ⟨j, hj, rfl⟩ := List.getElem_of_mem hx
    exact h2 j _ (by omega) (List.getElem?_eq_getElem hj)
  clear hl hlen
  go_enter Tryz.func5, Tryz.ntmps5
  have HF := Lib.hid (fun (d : MDV) (b : Bool) (h : fits22B d = b) (w : World) (hl : LAt w d.A d.us) => show Calls Tryz.prog 17 #[.agg #[.string d.op, .int .i64 d.h, .slice d.A d.us.length d.c]] w fun e w' => e = .returned (.bool b) ∧ Below w.heap.size w w' by rw [← h]; exact zzFits22_any d w hl)
  go_wp2
  · go_ret
    exact ⟨by rw [HB.out (by omega)]; rfl, Below.refl _ _⟩
  go_loopw [10] (fun i wr => ∃ k : Nat, k ≤ len ∧ i = .int .i64 k ∧ Below w.heap.size w wr ∧ ∀ j x, j < k → dv[j]? = some x → fits22B x = true) (fun i _ => len - (intOf i).toNat)
  case atStart => exact ⟨0, by omega, rfl, Below.refl _ _, fun _ _ h => by omega⟩
  case round =>
    obtain ⟨k, hk, rfl, hb, hall⟩ := hrel
    have HA := Lib.hid hall
    clear hall
    by_cases hlt : k < len
    · obtain ⟨x, hx'⟩ : ∃ x, dv[k]? = some x := ⟨_, List.getElem?_eq_getElem (by rw [← HN.out]; exact hlt)⟩
      have HX := Lib.hid hx'
      obtain ⟨⟨ad, rfl, hbl, h0, h1, h2⟩, hl⟩ := (HL.out.below hb) k x hx'
      have HLA := Lib.hid hl
      clear hx' hl
      have hs := hb.size
      cases hf : fits22B x with
      | false =>
        have HW := Lib.hid (HF.out x false hf)
        have hf' := Lib.hid hf
        clear hf
        go_wp2_with (go_at_call 17; refine (HW.out _ (HLA.out.below ((Below.refl _ _).alloc (Nat.le_refl _) _))).mono ?_; rintro e w1 ⟨rfl, hb1⟩)
        go_ret
        exact ⟨by rw [HE.out k x HX.out hf'.out]; rfl, up_below' (hb.alloc hb.size _) hb1⟩
      | true =>
        have HW := Lib.hid (HF.out x true hf)
        have hf' := Lib.hid hf
        clear hf
        go_wp2_with (go_at_call 17; refine (HW.out _ (HLA.out.below ((Below.refl _ _).alloc (Nat.le_refl _) _))).mono ?_; rintro e w1 ⟨rfl, hb1⟩)
        refine ⟨⟨k + 1, by omega, by push_cast; rfl, up_below' (hb.alloc hb.size _) hb1, fun j y hj hy => ?_⟩, by simp [intOf]; omega⟩
        rcases Nat.lt_or_ge j k with h | h
        · exact HA.out j y h hy
        · obtain rfl : j = k := by omega
          obtain rfl : y = x := Option.some.inj (hy.symm.trans HX.out)
          exact hf'.out
    · have hke : k = len := by omega
      subst hke
      go_wp2
      go_ret
      exact ⟨by rw [HY.out (by omega) HA.out]; rfl, hb⟩

def isOpB (op : ByteArray) : Bool := op.toList == [98, 101, 103, 105, 110] || op.toList == [99, 111, 109, 109, 105, 116] || op.toList == [114, 111, 108, 108, 98, 97, 99, 107] || op.toList == [99, 114, 101, 97, 116, 101] || op.toList == [117, 112, 100, 97, 116, 101] || op.toList == [100, 101, 108, 101, 116, 101] || op.toList == [114, 101, 97, 100]
def memB (d : MDV) : Bool := isOpB d.op && (concL d.us 10 && decide (0 ≤ d.h))
def isMemB (dv : List MDV) : Bool := decide (dv.length ≤ 40) && dv.all memB

theorem isOp_cases {op : ByteArray} (h : isOpB op = true) : op.toList = [98, 101, 103, 105, 110] ∨ op.toList = [99, 111, 109, 109, 105, 116] ∨ op.toList = [114, 111, 108, 108, 98, 97, 99, 107] ∨ op.toList = [99, 114, 101, 97, 116, 101] ∨ op.toList = [117, 112, 100, 97, 116, 101] ∨ op.toList = [100, 101, 108, 101, 116, 101] ∨ op.toList = [114, 101, 97, 100] := by
  unfold isOpB at h
  simp only [Bool.or_eq_true, beq_iff_eq] at h
  rcases h with (((((h | h) | h) | h) | h) | h) | h
  · exact .inl h
  · exact .inr (.inl h)
  · exact .inr (.inr (.inl h))
  · exact .inr (.inr (.inr (.inl h)))
  · exact .inr (.inr (.inr (.inr (.inl h))))
  · exact .inr (.inr (.inr (.inr (.inr (.inl h)))))
  · exact .inr (.inr (.inr (.inr (.inr (.inr (h))))))

theorem isOp_none {op : ByteArray} (h : isOpB op = false) : (op.toList == [98, 101, 103, 105, 110]) = false ∧ (op.toList == [99, 111, 109, 109, 105, 116]) = false ∧ (op.toList == [114, 111, 108, 108, 98, 97, 99, 107]) = false ∧ (op.toList == [99, 114, 101, 97, 116, 101]) = false ∧ (op.toList == [117, 112, 100, 97, 116, 101]) = false ∧ (op.toList == [100, 101, 108, 101, 116, 101]) = false ∧ (op.toList == [114, 101, 97, 100]) = false := by
  unfold isOpB at h
  simp only [Bool.or_eq_false_iff] at h
  obtain ⟨⟨⟨⟨⟨⟨h1, h2⟩, h3⟩, h4⟩, h5⟩, h6⟩, h7⟩ := h
  exact ⟨h1, h2, h3, h4, h5, h6, h7⟩

set_option maxRecDepth 100000 in
set_option maxHeartbeats 3200000 in
theorem isMem_any (dv : List MDV) (A : Option Addr) (c : Nat) (w : World) (hl : MDeedsAt w A dv) (hfit : ∀ d ∈ dv, d.us.length ≤ 2147483647) (hlen9 : dv.length ≤ 2147483647) :
    Calls Tryz.prog 6 #[.slice A dv.length c] w fun e w' => e = .returned (.bool (isMemB dv)) ∧ Below w.heap.size w w' := by
  obtain ⟨len, hlen⟩ : ∃ len, len = dv.length := ⟨_, rfl⟩
  have HL := Lib.hid hl
  have HN := Lib.hid hlen
  have HFT := Lib.hid hfit
  rw [← hlen] at hlen9 ⊢
  have HB : Hid (40 < len → isMemB dv = false) := fun h => by unfold isMemB; rw [← hlen]; simp; omega
  have HE : Hid (∀ (k : Nat) (x : MDV), dv[k]? = some x → memB x = false → isMemB dv = false) := fun k x hx hf => by
    unfold isMemB
    rw [Bool.and_eq_false_iff]
    right
    rw [List.all_eq_false]
    exact ⟨x, List.mem_of_getElem? hx, by rw [hf]; decide⟩
  have HY : Hid (len ≤ 40 → (∀ j x, j < len → dv[j]? = some x → memB x = true) → isMemB dv = true) := fun h1 h2 => by
    unfold isMemB
    rw [Bool.and_eq_true, decide_eq_true_eq, List.all_eq_true]
    refine ⟨by omega, fun x hx => ?_⟩
    obtain ⟨j, hj, rfl⟩ := List.getElem_of_mem hx
    exact h2 j _ (by omega) (List.getElem?_eq_getElem hj)
  clear hl hlen hfit
  go_enter Tryz.func6, Tryz.ntmps6
  have HF := Lib.hid (fun (d : MDV) (hd : d ∈ dv) (b : Bool) (h : concL d.us 10 = b) (w : World) (hl : LAt w d.A d.us) => show Calls Tryz.prog 18 #[.slice d.A d.us.length d.c, .int .i64 10] w fun e w' => e = .returned (.bool b) ∧ Below w.heap.size w w' by rw [← h]; exact allConcrete_any d.us d.A d.c 10 w hl (by have := HFT.out d hd; omega))
  go_wp2
  · go_ret
    exact ⟨by rw [HB.out (by omega)]; rfl, Below.refl _ _⟩
  go_loopw [9] (fun i wr => ∃ k : Nat, k ≤ len ∧ i = .int .i64 k ∧ Below w.heap.size w wr ∧ ∀ j x, j < k → dv[j]? = some x → memB x = true) (fun i _ => len - (intOf i).toNat)
  case atStart => exact ⟨0, by omega, rfl, Below.refl _ _, fun _ _ h => by omega⟩
  case round =>
    obtain ⟨k, hk, rfl, hb, hall⟩ := hrel
    have HA := Lib.hid hall
    clear hall
    by_cases hlt : k < len
    · obtain ⟨x, hx'⟩ : ∃ x, dv[k]? = some x := ⟨_, List.getElem?_eq_getElem (by rw [← HN.out]; exact hlt)⟩
      have HX := Lib.hid hx'
      obtain ⟨⟨ad, rfl, hbl, h0, h1, h2⟩, hl⟩ := (HL.out.below hb) k x hx'
      have HLA := Lib.hid hl
      have HBW := Lib.hid hb
      clear hx' hl
      have hs := hb.size
      cases hop : isOpB x.op with
      | false =>
        obtain ⟨f1, f2, f3, f4, f5, f6, f7⟩ := isOp_none hop
        have HM : Hid (memB x = false) := Lib.hid (by simp [memB, hop])
        clear hop
        go_wp2
        go_ret
        exact ⟨by rw [HE.out k x HX.out HM.out]; rfl, hb⟩
      | true =>
        cases hcc : concL x.us 10 with
        | false =>
          have HM : Hid (memB x = false) := Lib.hid (by simp [memB, hcc])
          have HW := Lib.hid (HF.out x (List.mem_of_getElem? HX.out) false hcc)
          have hop' := isOp_cases hop
          clear hop hcc
          rcases hop' with f | f | f | f | f | f | f
          all_goals
            go_wp2_with (go_at_call 18; refine (HW.out _ HLA.out).mono ?_; rintro e w1 ⟨rfl, hb1⟩)
            go_ret
            exact ⟨by rw [HE.out k x HX.out HM.out]; rfl, up_below' HBW.out hb1⟩
        | true =>
          have HW := Lib.hid (HF.out x (List.mem_of_getElem? HX.out) true hcc)
          have hop' := isOp_cases hop
          by_cases hneg : x.h < 0
          · have HM : Hid (memB x = false) := Lib.hid (by simp [memB]; omega)
            clear hop hcc
            rcases hop' with f | f | f | f | f | f | f
            all_goals
              go_wp2_with (go_at_call 18; refine (HW.out _ HLA.out).mono ?_; rintro e w1 ⟨rfl, hb1⟩; have g1 : w1.cell? ⟨(ad.add (k * 3)).block, (ad.add (k * 3)).off + 1, none⟩ = some (.int .i64 x.h) := (hb1.cell (by exact hbl)).trans h1)
              go_ret
              exact ⟨by rw [HE.out k x HX.out HM.out]; rfl, up_below' HBW.out hb1⟩
          · have HM : Hid (memB x = true) := Lib.hid (by simp [memB, hop, hcc]; omega)
            clear hop hcc
            rcases hop' with f | f | f | f | f | f | f
            all_goals
              go_wp2_with (go_at_call 18; refine (HW.out _ HLA.out).mono ?_; rintro e w1 ⟨rfl, hb1⟩; have g1 : w1.cell? ⟨(ad.add (k * 3)).block, (ad.add (k * 3)).off + 1, none⟩ = some (.int .i64 x.h) := (hb1.cell (by exact hbl)).trans h1)
              refine ⟨⟨k + 1, by omega, by push_cast; rfl, up_below' HBW.out hb1, fun j y hj hy => ?_⟩, by simp [intOf]; omega⟩
              rcases Nat.lt_or_ge j k with h | h
              · exact HA.out j y h hy
              · obtain rfl : j = k := by omega
                obtain rfl : y = x := Option.some.inj (hy.symm.trans HX.out)
                exact HM.out
    · have hke : k = len := by omega
      subst hke
      go_wp2
      go_ret
      exact ⟨by rw [HY.out (by omega) HA.out]; rfl, hb⟩

end Go.Proofs.YtffgkocokkhahaaGreatDoor

/- laws.stores: a memory store has what was put into it. -/
namespace Go.Proofs.YtffgkocokkhahaaGreatDoor
open Go.RowKit

/-- An answer's cells. -/
theorem mans_cell {w : World} {n g : Nat} {cur : Array Value} {e : TypeId} {av : List MAV} (hh : w.heap[g]? = some (.cells cur e (0, 0))) (ht : cur.toList.take (n * 3) = flat MAV.cells av) {j : Nat} {a : MAV} (ha : av[j]? = some a) :
    w.cell? ⟨g, j * 3, none⟩ = some (.int .i64 a.err) ∧ w.cell? ⟨g, j * 3 + 1, none⟩ = some (.int .i64 a.h) ∧ w.cell? ⟨g, j * 3 + 2, none⟩ = some a.R := by
  have h : ∀ (i : Nat) (v : Value), i < 3 → a.cells[i]? = some v → w.cell? ⟨g, j * 3 + i, none⟩ = some v := fun i v hi hv => by
    have h1 := flat_at MAV.cells 3 MAV.three av j a i v ha hi hv
    have h2 := (List.getElem?_eq_some_iff.1 h1).1
    rw [cell_of_heap hh, ← Array.getElem?_toList, cur_split ht, List.getElem?_append_left h2]
    exact h1
  exact ⟨h 0 _ (by omega) rfl, h 1 _ (by omega) rfl, h 2 _ (by omega) rfl⟩

def storesD (b : Nat) : List MDV := [⟨beginS, 0, none, 0, []⟩, ⟨mcreateS, 0, some ⟨b, 0, none⟩, 1, [numV 1]⟩, ⟨commitS, 0, none, 0, []⟩]
def storesM : List (MD (List VV)) := [.begin, .create [numV 1], .commit]

theorem num_row : MRow [numV 1] := by
  refine ⟨numV_conc.1, fun j x hx => ?_, by simp⟩
  have h1 := (List.getElem?_eq_some_iff.1 hx).1
  have : j = 0 := by simp at h1; omega
  subst this
  obtain rfl := Option.some.inj hx
  show (ByteArray.size ⟨#[]⟩) ≤ 2147483647
  decide

theorem stores_is (b : Nat) (j : Nat) (d : MDV) (x : MD (List VV)) (h1 : (storesD b)[j]? = some d) (h2 : storesM[j]? = some x) : d.is x := by
  have hj := (List.getElem?_eq_some_iff.1 h1).1
  have : j = 0 ∨ j = 1 ∨ j = 2 := by simp [storesD] at hj; omega
  rcases this with rfl | rfl | rfl
  · obtain rfl := Option.some.inj h1
    obtain rfl := Option.some.inj h2
    rfl
  · obtain rfl := Option.some.inj h1
    obtain rfl := Option.some.inj h2
    exact ⟨rfl, rfl, num_row⟩
  · obtain rfl := Option.some.inj h1
    obtain rfl := Option.some.inj h2
    rfl

def StoresP (W : World) (y : Ending) (w' : World) : Prop :=
  ∃ g cap, y = .returned (.slice (some ⟨g, 0, none⟩) 3 cap) ∧ w'.cell? ⟨g, 3, none⟩ = some (.int .i64 0) ∧ w'.cell? ⟨g, 4, none⟩ = some (.int .i64 2) ∧ Below W.heap.size W w'

theorem stores_mem {W : World} {b : Nat} {a : Addr} (hE : ErrsOk W a) (hA : LAt W (some ⟨b, 0, none⟩) [numV 1]) {t : TypeId} {fr : Nat × Nat} {g : Nat} (hg : W.heap[g]? = some (.cells #[.string beginS, .int .i64 0, .slice none 0 0, .string mcreateS, .int .i64 0, .slice (some ⟨b, 0, none⟩) 1 1, .string commitS, .int .i64 0, .slice none 0 0] t fr)) :
    Calls Tryz.prog 19 #[.slice (some ⟨g, 0, none⟩) 3 3] W (StoresP W) := by
  have hd : MDeedsAt W (some ⟨g, 0, none⟩) (storesD b) := by
    refine mdeeds_reads (n := 3) ⟨rfl, fun _ => ⟨_, rfl, lt_of_heap hg, fun j u hu => World.news_of_block hg j u hu⟩⟩ rfl (fun d hd => ?_)
    simp only [storesD, List.mem_cons, List.not_mem_nil, or_false] at hd
    rcases hd with rfl | rfl | rfl
    · exact fun i x hx => by simp at hx
    · exact hA
    · exact fun i x hx => by simp at hx
  refine (mem_any (dv := storesD b) (ds := storesM) (c := 3) rfl (stores_is b) ⟨trivial, (by simp [okD, nxt, c0M]), trivial, trivial⟩ (by simp [storesM]) hE hd).mono ?_
  rintro y w' ⟨A, c, av, rfl, hown, hlen, hans, hb⟩
  obtain ⟨g, cap, cur, e1, _, hh, _, _, _, ht⟩ := own_some hown (by simp [storesM])
  have hA' : A = some ⟨g, 0, none⟩ := by injection e1
  subst hA'
  obtain ⟨a0, a1, a2, rfl⟩ : ∃ a0 a1 a2, av = [a0, a1, a2] := by
    match av, hlen with
    | [a0, a1, a2], _ => exact ⟨a0, a1, a2, rfl⟩
  have c1 := mans_cell (n := 3) hh ht (j := 1) (a := a1) rfl
  have h1 := hans 1 a1 _ rfl rfl
  have he : a1.err = 0 := h1.err
  have hq : a1.h = 2 := h1.h
  rw [he, hq] at c1
  exact ⟨g, c, rfl, c1.1, c1.2.1, hb⟩

theorem stores_call (w1 : World) {a : Addr} (hE : ErrsOk w1 a) : Calls Tryz.prog 19 #[.slice (some ⟨w1.heap.size + 1, 0, none⟩) 3 3]
    ((w1.alloc (.cells #[.string int64S, .int .i64 1, .int .u64 0, .float .f64 0, .string empS] 57)).alloc (.cells #[.string ⟨#[98, 101, 103, 105, 110]⟩, .int .i64 0, .slice none 0 0, .string ⟨#[99, 114, 101, 97, 116, 101]⟩, .int .i64 0, .slice (some ⟨w1.heap.size, 0, none⟩) 1 1, .string ⟨#[99, 111, 109, 109, 105, 116]⟩, .int .i64 0, .slice none 0 0] 34))
    (StoresP ((w1.alloc (.cells #[.string int64S, .int .i64 1, .int .u64 0, .float .f64 0, .string empS] 57)).alloc (.cells #[.string ⟨#[98, 101, 103, 105, 110]⟩, .int .i64 0, .slice none 0 0, .string ⟨#[99, 114, 101, 97, 116, 101]⟩, .int .i64 0, .slice (some ⟨w1.heap.size, 0, none⟩) 1 1, .string ⟨#[99, 111, 109, 109, 105, 116]⟩, .int .i64 0, .slice none 0 0] 34))) := by
  obtain ⟨W0, hW0⟩ : ∃ W0, W0 = w1.alloc (.cells #[.string int64S, .int .i64 1, .int .u64 0, .float .f64 0, .string empS] 57) := ⟨_, rfl⟩
  have hl : LAt W0 (some ⟨w1.heap.size, 0, none⟩) [numV 1] := by rw [hW0]; exact lat_new w1 (numV 1) _
  have hs : W0.heap.size = w1.heap.size + 1 := by rw [hW0]; simp
  have hb : Below w1.heap.size w1 W0 := by rw [hW0]; exact (Below.refl _ _).alloc (Nat.le_refl _) _
  rw [← hW0, ← hs]
  exact stores_mem ((hE.of hb).of ((Below.refl _ _).alloc (Nat.le_refl _) _)) (hl.below ((Below.refl _ _).alloc (Nat.le_refl _) _)) (heap_new W0 _)

set_option maxRecDepth 100000 in
set_option maxHeartbeats 1600000 in
theorem stores_any (w : World) {a : Addr} (hE : ErrsOk w a) : Calls Tryz.prog 7 #[] w fun e w' => e = .returned (.bool true) ∧ Below w.heap.size w w' := by
  have HE := Lib.hid hE
  clear hE
  go_enter Tryz.func7, Tryz.ntmps7
  go_wp2_with (first
    | (go_at_call 20; refine (num_any _ _).mono ?_; rintro e w1 ⟨rfl, hb1⟩; have HB1 := Lib.hid hb1; clear hb1
       have HK := Lib.hid (stores_call w1 (HE.out.of HB1.out)))
    | (go_at_call 19
       refine HK.out.mono ?_
       rintro y w2 ⟨g, cap, rfl, d3, d4, hb2⟩
       have HB2 := Lib.hid hb2
       clear hb2))
  go_ret
  exact ⟨rfl, up_below' (up_below' HB1.out (below_al2 w1 _ _)) HB2.out⟩

end Go.Proofs.YtffgkocokkhahaaGreatDoor

/- laws.tried in memory: the deeds, the map of what is now, the maps of what was. -/
namespace Go.Proofs.YtffgkocokkhahaaGreatDoor
open Go.RowKit

/-- Rows that a law's map has: they lie in the law's arguments. -/
def RowsIn (w0 : World) (N : Nat → Option RV) : Prop := ∀ h r, N h = some r → LAt w0 r.A r.l ∧ MRow r.l

abbrev NMap := Nat → Option RV

def LinkL (w0 : World) : List (Nat × NMap) → List (MSt (List VV)) → Prop
  | [], ss => ss = []
  | o :: os, ss => ∃ s ss', ss = s :: ss' ∧ Link o.2 RV.l s ∧ RowsIn w0 o.2 ∧ LinkL w0 os ss'

theorem LinkL.length {w0 : World} : ∀ {os : List (Nat × NMap)} {ss : List (MSt (List VV))}, LinkL w0 os ss → os.length = ss.length
  | [], ss, h => by rw [show ss = [] from h]; rfl
  | o :: os, ss, h => by
    obtain ⟨s, ss', rfl, _, _, h⟩ := h
    simp [LinkL.length h]

def LenC (k : Nat) (c : MC (List VV)) : Prop := c.1.data.length ≤ k + 2 ∧ ∀ s ∈ c.2, s.data.length ≤ k + 2

theorem LenC.nxt {k : Nat} {c : MC (List VV)} (h : LenC k c) (d : MD (List VV)) : LenC (k + 1) (nxt [] c d) := by
  obtain ⟨h1, h2⟩ := h
  cases d with
  | begin => exact ⟨by show c.1.data.length ≤ _; omega, fun s hs => (List.mem_cons.1 hs).elim (fun e => by rw [e]; omega) (fun hs => by have := h2 s hs; omega)⟩
  | commit => exact ⟨by show c.1.data.length ≤ _; omega, fun s hs => by have := h2 s (List.mem_of_mem_tail hs); omega⟩
  | rollback =>
    refine ⟨?_, fun s hs => by have := h2 s (List.mem_of_mem_tail hs); omega⟩
    show (c.2.head?.getD c.1).data.length ≤ _
    cases hc : c.2 with
    | nil => simp; omega
    | cons a t => have := h2 a (by rw [hc]; simp); simp; omega
  | create l =>
    refine ⟨?_, fun s hs => by have := h2 s hs; omega⟩
    show (made c.1 l).data.length ≤ _
    unfold made
    cases c.1.rcy.getLast? with
    | none => simp; omega
    | some h => simp; omega
  | update x l => exact ⟨by show (c.1.data.set x l).length ≤ _; simp; omega, fun s hs => by have := h2 s hs; omega⟩
  | delete x => exact ⟨by show (c.1.data.set x []).length ≤ _; simp; omega, fun s hs => by have := h2 s hs; omega⟩
  | read _ => exact ⟨by show c.1.data.length ≤ _; omega, fun s hs => by have := h2 s hs; omega⟩

/-- The plain side of what a law has tried. -/
structure TrP (w0 : World) (dv : List MDV) (dm : List (MD (List VV))) (N : NMap) (os : List (Nat × NMap)) (k : Nat) : Prop where
  len1 : dv.length = k
  len2 : dm.length = k
  is : ∀ (j : Nat) (d : MDV) (x : MD (List VV)), dv[j]? = some d → dm[j]? = some x → d.is x
  rows : ∀ d ∈ dv, LAt w0 d.A d.us
  ok : okM [] c0M dm
  link : Link N RV.l (runM [] c0M dm).1
  rin : RowsIn w0 N
  links : LinkL w0 os (runM [] c0M dm).2
  fine : FineC (runM [] c0M dm)
  lenc : LenC k (runM [] c0M dm)

theorem TrP.bound {w0 : World} {dv : List MDV} {dm : List (MD (List VV))} {N : NMap} {os : List (Nat × NMap)} {k : Nat} (h : TrP w0 dv dm N os k) {x : Nat} {r : RV} (hx : N x = some r) : x < k + 2 := by
  have h1 := ((h.link x).1 r hx).1.2.1
  have h2 := h.lenc.1
  omega

theorem is_snoc {dv : List MDV} {dm : List (MD (List VV))} {k : Nat} (h1 : dv.length = k) (h2 : dm.length = k) (h : ∀ (j : Nat) (d : MDV) (x : MD (List VV)), dv[j]? = some d → dm[j]? = some x → d.is x) {d : MDV} {x : MD (List VV)} (hd : d.is x) :
    ∀ (j : Nat) (e : MDV) (y : MD (List VV)), (dv ++ [d])[j]? = some e → (dm ++ [x])[j]? = some y → e.is y := by
  intro j e y he hy
  rcases Nat.lt_or_ge j k with hj | hj
  · rw [List.getElem?_append_left (by omega)] at he hy
    exact h j e y he hy
  · rw [List.getElem?_append_right (by omega)] at he hy
    have hj0 : j = k := by
      have := (List.getElem?_eq_some_iff.1 he).1
      simp at this
      omega
    subst hj0
    rw [h1, Nat.sub_self] at he
    rw [h2, Nat.sub_self] at hy
    obtain rfl := Option.some.inj he
    obtain rfl := Option.some.inj hy
    exact hd

/-- One deed more. -/
theorem TrP.snoc {w0 : World} {dv : List MDV} {dm : List (MD (List VV))} {N N' : NMap} {os os' : List (Nat × NMap)} {k : Nat} (h : TrP w0 dv dm N os k) {d : MDV} {x : MD (List VV)} (hd : d.is x) (hok : okD (runM [] c0M dm) x) (hl : LAt w0 d.A d.us)
    (hlink : Link N' RV.l (nxt [] (runM [] c0M dm) x).1) (hrin : RowsIn w0 N') (hlinks : LinkL w0 os' (nxt [] (runM [] c0M dm) x).2) : TrP w0 (dv ++ [d]) (dm ++ [x]) N' os' (k + 1) := by
  have e := runM_snoc [] c0M dm x
  refine ⟨by simp [h.len1], by simp [h.len2], is_snoc h.len1 h.len2 h.is hd, fun z hz => ?_, okM_snoc [] dm c0M x h.ok hok, by rw [e]; exact hlink, hrin, by rw [e]; exact hlinks, by rw [e]; exact h.fine.nxt [] hok, by rw [e]; exact h.lenc.nxt x⟩
  rcases List.mem_append.1 hz with hz | hz
  · exact h.rows z hz
  · obtain rfl := List.mem_singleton.1 hz
    exact hl

def mapV (o : Nat × NMap) : Value := .map (some o.1)

/-- .. and in memory. -/
structure TrM (B : Nat) (w : World) (t k : Nat) (dv : List MDV) (b : Nat) (N : NMap) (os : List (Nat × NMap)) (dsv ov : Value) : Prop where
  cell : w.heap[t]? = some (.cells #[dsv, .map (some b), ov] 30 (0, 0))
  deeds : w.ownsRow B 34 3 dsv dv.length (flat MDV.cells dv)
  now : MapAt w b k N
  opens : w.ownsRow B 27 1 ov os.length (os.reverse.map mapV)
  maps : ∀ o ∈ os, MapAt w o.1 k o.2
  tB : B ≤ t
  bB : B ≤ b
  oB : ∀ o ∈ os, B ≤ o.1
  nb : ∀ o ∈ os, o.1 ≠ b
  no : (os.map (·.1)).Nodup

theorem MapAt.ne {w : World} {b n : Nat} {N : NMap} (h : MapAt w b n N) {x : Nat} {cs : Array Value} {T : TypeId} {fr : Nat × Nat} (hx : w.heap[x]? = some (.cells cs T fr)) : b ≠ x := by
  rintro rfl
  obtain ⟨D, ⟨es, clock, hb, _⟩, _⟩ := h
  rw [hx] at hb
  cases hb
theorem MapAt.nown {w : World} {b n B k s : Nat} {N : NMap} {e : TypeId} {v : Value} {xs : List Value} (h : MapAt w b n N) (ho : w.ownsRow B e s v k xs) : v.ownBlock ≠ some b := fun hb => by
  obtain ⟨cur, hh⟩ := own_heap ho hb
  exact h.ne hh rfl

/-- What a law has tried. -/
def Tr (B : Nat) (w0 w : World) (t k : Nat) : Prop :=
  ∃ dv dm b N os dsv ov, TrP w0 dv dm N os k ∧ TrM B w t k dv b N os dsv ov ∧ Below B w0 w

def DeedP (B : Nat) (w0 : World) (t k : Nat) (y : Ending) (w' : World) : Prop := y = .returned (.bool true) ∧ ∃ k', k' ≤ k + 1 ∧ Tr B w0 w' t k'

theorem TrM.chg {B t k b : Nat} {S : Nat → Prop} {w w' : World} {dv : List MDV} {N : NMap} {os : List (Nat × NMap)} {dsv ov : Value} (h : TrM B w t k dv b N os dsv ov) (hc : Chg S w w') (hn : ∀ x, B ≤ x → x < w.heap.size → ¬ S x) : TrM B w' t k dv b N os dsv ov :=
  ⟨heap_chg h.cell hc (hn _ h.tB (lt_of_heap h.cell)), own_chg h.deeds hc (fun x hx => hn x (own_ge h.deeds hx) (own_lt h.deeds hx)), h.now.chg hc (hn _ h.bB h.now.lt), own_chg h.opens hc (fun x hx => hn x (own_ge h.opens hx) (own_lt h.opens hx)), fun o ho => (h.maps o ho).chg hc (hn _ (h.oB o ho) (h.maps o ho).lt), h.tB, h.bB, h.oB, h.nb, h.no⟩

theorem TrM.below {B t k b : Nat} {w w' : World} {dv : List MDV} {N : NMap} {os : List (Nat × NMap)} {dsv ov : Value} (h : TrM B w t k dv b N os dsv ov) (hb : Below w.heap.size w w') : TrM B w' t k dv b N os dsv ov := h.chg (Chg.of_below (S := fun _ => False) hb) (fun _ _ _ h => h)

theorem Tr.stay {B t k : Nat} {w0 w w' : World} {dv : List MDV} {dm : List (MD (List VV))} {b : Nat} {N : NMap} {os : List (Nat × NMap)} {dsv ov : Value} (hp : TrP w0 dv dm N os k) (hm : TrM B w t k dv b N os dsv ov) (hb : Below B w0 w) (hB : B ≤ w.heap.size) (h : Below w.heap.size w w') : DeedP B w0 t k (.returned (.bool true)) w' :=
  ⟨rfl, k, by omega, dv, dm, b, N, os, dsv, ov, hp, hm.below h, hb.trans ⟨h.os, h.tape, h.output, h.size, fun i hi => h.block i (Nat.lt_of_lt_of_le hi hB)⟩⟩

/-- The last answer. -/
def MemLast (c : MC (List VV)) (x : MD (List VV)) (k : Nat) (W : World) (y : Ending) (w' : World) : Prop :=
  ∃ g cap A2 n2 c2 us, y = .returned (.slice (some ⟨g, 0, none⟩) (k + 1) cap) ∧ w'.cell? ⟨g, k * 3, none⟩ = some (.int .i64 ((ans [] c x).err : Nat)) ∧ w'.cell? ⟨g, k * 3 + 1, none⟩ = some (.int .i64 ((ans [] c x).h : Nat)) ∧ w'.cell? ⟨g, k * 3 + 2, none⟩ = some (.slice A2 n2 c2) ∧
    n2 = us.length ∧ w'.ownsRow W.heap.size 57 5 (.slice A2 n2 c2) n2 (flat VV.cells us) ∧ us.length = (ans [] c x).row.length ∧ (∀ (j : Nat) (v u : VV), (ans [] c x).row[j]? = some v → us[j]? = some u → OutOf v u) ∧ g < w'.heap.size ∧ Below W.heap.size W w'

theorem mem_last {w0 W : World} {B k : Nat} {dv : List MDV} {dm : List (MD (List VV))} {N : NMap} {os : List (Nat × NMap)} {a : Addr} (h : TrP w0 dv dm N os k) {d : MDV} {x : MD (List VV)} (hd : d.is x) (hok : okD (runM [] c0M dm) x) (hl : LAt w0 d.A d.us) (hB : B = w0.heap.size) (hbW : Below B w0 W) (hE : ErrsOk w0 a) (hk : k ≤ 85)
    {A : Option Addr} {c : Nat} (hown : W.ownsRow B 34 3 (.slice A (k + 1) c) (k + 1) (flat MDV.cells (dv ++ [d]))) :
    Calls Tryz.prog 19 #[.slice A (k + 1) c] W (MemLast (runM [] c0M dm) x k W) := by
  subst hB
  have hlen : (dm ++ [x]).length = k + 1 := by simp [h.len2]
  have hdl : (dv ++ [d]).length = k + 1 := by simp [h.len1]
  have hat : MDeedsAt W A (dv ++ [d]) := mdeeds_reads (Reads.of_own hown) hdl (fun z hz => by
    rcases List.mem_append.1 hz with hz | hz
    · exact (h.rows z hz).below hbW
    · obtain rfl := List.mem_singleton.1 hz
      exact hl.below hbW)
  have hm := mem_any (c := c) (by rw [hdl, hlen]) (is_snoc h.len1 h.len2 h.is hd) (okM_snoc [] dm c0M x h.ok hok) (by rw [hlen]; omega) (hE.of hbW) hat
  rw [hlen] at hm
  refine hm.mono ?_
  rintro y w' ⟨A1, c1, av, e, hown1, hal, hans, hb⟩
  rw [hlen] at e hown1 hal
  obtain ⟨g, cap, cur, e1, _, hh, _, _, _, ht⟩ := own_some hown1 (by omega)
  have hA' : A1 = some ⟨g, 0, none⟩ := by injection e1
  subst hA'
  obtain ⟨ak, hak⟩ : ∃ ak, av[k]? = some ak := ⟨_, List.getElem?_eq_getElem (by omega)⟩
  have hx : (dm ++ [x])[k]? = some x := by rw [List.getElem?_append_right (by rw [h.len2]; exact Nat.le_refl _), h.len2, Nat.sub_self]; rfl
  have htk : (dm ++ [x]).take k = dm := by rw [List.take_append_of_le_length (by rw [h.len2]; exact Nat.le_refl _), List.take_of_length_le (by rw [h.len2]; exact Nat.le_refl _)]
  have hx2 := ansM_at [] (dm ++ [x]) c0M k x hx
  rw [htk] at hx2
  have ho := hans k ak _ hak hx2
  have hc := mans_cell (n := k + 1) hh ht hak
  rw [ho.err, ho.h] at hc
  obtain ⟨A2, c2, hR⟩ := own_form ho.own
  have how := ho.own
  rw [hR] at how hc
  exact ⟨g, c1, A2, _, c2, ak.us, e, hc.1, hc.2.1, hc.2.2, rfl, how, ho.len, ho.outs, lt_of_heap hh, hb⟩

end Go.Proofs.YtffgkocokkhahaaGreatDoor

/- What a law has tried, turned by a deed. -/
namespace Go.Proofs.YtffgkocokkhahaaGreatDoor
open Go.RowKit

variable {B t k b : Nat} {w w2 W : World} {dv : List MDV} {N N' : NMap} {os : List (Nat × NMap)} {dsv ov dsv' ov' : Value}

theorem TrM.more (h : TrM B w t k dv b N os dsv ov) {k' : Nat} (hk : k ≤ k') : TrM B w t k' dv b N os dsv ov :=
  ⟨h.cell, h.deeds, h.now.mono hk, h.opens, fun o ho => (h.maps o ho).mono hk, h.tB, h.bB, h.oB, h.nb, h.no⟩

/-- A deed is noted. -/
theorem TrM.push {d : MDV} (h : TrM B w t k dv b N os dsv ov) (hc : Chg (fun z => dsv.ownBlock = some z) w w2) (ho : w2.ownsRow B 34 3 dsv' (dv.length + 1) (flat MDV.cells dv ++ d.cells)) (hn : ∀ z, dsv'.ownBlock = some z → dsv.ownBlock = some z ∨ w.heap.size ≤ z) (hW : W = w2.setCell ⟨t, 0, none⟩ dsv') :
    TrM B W t k (dv ++ [d]) b N os dsv' ov := by
  subst hW
  have lt := lt_of_heap h.cell
  have htd : dsv.ownBlock ≠ some t := own_ne h.deeds h.cell (by decide)
  have hto : ov.ownBlock ≠ some t := own_ne h.opens h.cell (by decide)
  have hk : Chg (fun z => z = t ∨ dsv.ownBlock = some z) w (w2.setCell ⟨t, 0, none⟩ dsv') := Chg.setCell (S := fun z => z = t ∨ dsv.ownBlock = some z) (hc.mono (fun _ _ e => .inr e)) (p := ⟨t, 0, none⟩) (.inl (.inl rfl)) _
  have hm : ∀ o n M, MapAt w o n M → ¬ (o = t ∨ dsv.ownBlock = some o) := fun o n M hM e => e.elim (hM.ne h.cell) (hM.nown h.deeds)
  refine ⟨?_, ?_, h.now.chg hk (hm _ _ _ h.now), own_chg h.opens hk (fun z hz e => e.elim (fun e => hto (by rw [hz, e])) (fun e => own_apart h.opens h.deeds (by decide) hz e)), fun o ho => (h.maps o ho).chg hk (hm _ _ _ (h.maps o ho)), h.tB, h.bB, h.oB, h.nb, h.no⟩
  · rw [heap_setCell_at, hc.block t lt htd, h.cell]
    rfl
  · have := ownsRow_setCell_other ho (a := ⟨t, 0, none⟩) (fun e => by
      rcases hn _ e with e | e
      · exact htd e
      · have : w.heap.size ≤ t := e
        omega) dsv'
    rw [flat_append, List.length_append]
    simpa [flat] using this

/-- A map is noted. -/
theorem TrM.open_ {mb : Nat} (h : TrM B w t k dv b N os dsv ov) (hmap : MapAt w mb k N') (hmb : B ≤ mb) (hne : mb ≠ b) (hno : ∀ o ∈ os, o.1 ≠ mb) (hc : Chg (fun z => ov.ownBlock = some z) w w2) (ho : w2.ownsRow B 27 1 ov' (os.length + 1) (os.reverse.map mapV ++ [.map (some mb)])) (hn : ∀ z, ov'.ownBlock = some z → ov.ownBlock = some z ∨ w.heap.size ≤ z) (hW : W = w2.setCell ⟨t, 2, none⟩ ov') :
    TrM B W t k dv b N ((mb, N') :: os) dsv ov' := by
  subst hW
  have lt := lt_of_heap h.cell
  have htd : dsv.ownBlock ≠ some t := own_ne h.deeds h.cell (by decide)
  have hto : ov.ownBlock ≠ some t := own_ne h.opens h.cell (by decide)
  have hk : Chg (fun z => z = t ∨ ov.ownBlock = some z) w (w2.setCell ⟨t, 2, none⟩ ov') := Chg.setCell (S := fun z => z = t ∨ ov.ownBlock = some z) (hc.mono (fun _ _ e => .inr e)) (p := ⟨t, 2, none⟩) (.inl (.inl rfl)) _
  have hm : ∀ o n M, MapAt w o n M → ¬ (o = t ∨ ov.ownBlock = some o) := fun o n M hM e => e.elim (hM.ne h.cell) (hM.nown h.opens)
  refine ⟨?_, own_chg h.deeds hk (fun z hz e => e.elim (fun e => htd (by rw [hz, e])) (fun e => own_apart h.deeds h.opens (by decide) hz e)), h.now.chg hk (hm _ _ _ h.now), ?_, fun o ho => ?_, h.tB, h.bB, fun o ho => ?_, fun o ho => ?_, ?_⟩
  · rw [heap_setCell_at, hc.block t lt hto, h.cell]
    rfl
  · have := ownsRow_setCell_other ho (a := ⟨t, 2, none⟩) (fun e => by
      rcases hn _ e with e | e
      · exact hto e
      · have : w.heap.size ≤ t := e
        omega) ov'
    rw [List.reverse_cons, List.map_append]
    exact this
  · rcases List.mem_cons.1 ho with rfl | ho
    · exact hmap.chg hk (hm _ _ _ hmap)
    · exact (h.maps o ho).chg hk (hm _ _ _ (h.maps o ho))
  · rcases List.mem_cons.1 ho with rfl | ho
    · exact hmb
    · exact h.oB o ho
  · rcases List.mem_cons.1 ho with rfl | ho
    · exact hne
    · exact h.nb o ho
  · refine List.nodup_cons.2 ⟨fun hm => ?_, h.no⟩
    obtain ⟨o, ho, e⟩ := List.mem_map.1 hm
    exact hno o ho e

/-- The last map is struck. -/
theorem TrM.drop {o : Nat × NMap} {A : Option Addr} {n c : Nat} (h : TrM B w t k dv b N (o :: os) dsv (.slice A n c)) (hn : n = os.length + 1) (hW : W = w.setCell ⟨t, 2, none⟩ (.slice A os.length c)) :
    TrM B W t k dv b N os dsv (.slice A os.length c) := by
  subst hW
  have hk : Chg (fun z => z = t) w (w.setCell ⟨t, 2, none⟩ (.slice A os.length c)) := chg_m t 2 _
  have htd : dsv.ownBlock ≠ some t := own_ne h.deeds h.cell (by decide)
  have hto : (Value.slice A n c).ownBlock ≠ some t := own_ne h.opens h.cell (by decide)
  have hop := h.opens
  rw [List.length_cons, ← hn] at hop
  have h1 := own_cut hop (k := os.length) (by omega) (by omega)
  rw [Nat.mul_one, List.reverse_cons, List.map_append, List.take_append_of_le_length (by simp), List.take_of_length_le (by simp)] at h1
  have hm := fun o n M (hM : MapAt w o n M) => hM.chg hk (fun e => hM.ne h.cell e)
  refine ⟨?_, own_chg h.deeds hk (fun z hz e => htd (by rw [hz, e])), hm _ _ _ h.now, own_chg h1 hk (fun z hz e => hto (by rw [← e, ← hz]; exact own_any _ _ _ _ _)), fun o ho => hm _ _ _ (h.maps o (List.mem_cons_of_mem _ ho)), h.tB, h.bB, fun o ho => h.oB o (List.mem_cons_of_mem _ ho), fun o ho => h.nb o (List.mem_cons_of_mem _ ho), (List.nodup_cons.1 h.no).2⟩
  rw [heap_setCell_at, h.cell]
  rfl

/-- .. and it is what is now. -/
theorem TrM.back {o : Nat × NMap} {A : Option Addr} {n c : Nat} (h : TrM B w t k dv b N (o :: os) dsv (.slice A n c)) (hn : n = os.length + 1) (hW : W = (w.setCell ⟨t, 1, none⟩ (.map (some o.1))).setCell ⟨t, 2, none⟩ (.slice A os.length c)) :
    TrM B W t k dv o.1 o.2 os dsv (.slice A os.length c) := by
  have hk : Chg (fun z => z = t) w (w.setCell ⟨t, 1, none⟩ (.map (some o.1))) := chg_m t 1 _
  have htd : dsv.ownBlock ≠ some t := own_ne h.deeds h.cell (by decide)
  have hto : (Value.slice A n c).ownBlock ≠ some t := own_ne h.opens h.cell (by decide)
  have hno := List.nodup_cons.1 h.no
  subst hW
  have hk2 : Chg (fun z => z = t) w ((w.setCell ⟨t, 1, none⟩ (.map (some o.1))).setCell ⟨t, 2, none⟩ (.slice A os.length c)) := Chg.setCell (S := fun z => z = t) hk (p := ⟨t, 2, none⟩) (.inl rfl) _
  have hop := h.opens
  rw [List.length_cons, ← hn] at hop
  have h2 := own_cut hop (k := os.length) (by omega) (by omega)
  rw [Nat.mul_one, List.reverse_cons, List.map_append, List.take_append_of_le_length (by simp), List.take_of_length_le (by simp)] at h2
  have hm2 := fun o n M (hM : MapAt w o n M) => hM.chg hk2 (fun e => hM.ne h.cell e)
  refine ⟨?_, own_chg h.deeds hk2 (fun z hz e => htd (by rw [hz, e])), hm2 _ _ _ (h.maps o (List.mem_cons_self ..)), own_chg h2 hk2 (fun z hz e => hto (by rw [← e, ← hz]; exact own_any _ _ _ _ _)), fun p hp => hm2 _ _ _ (h.maps p (List.mem_cons_of_mem _ hp)), h.tB, h.oB o (List.mem_cons_self ..), fun p hp => h.oB p (List.mem_cons_of_mem _ hp), fun p hp e => hno.1 (by show o.1 ∈ _; rw [← e]; exact List.mem_map_of_mem (f := (·.1)) hp), hno.2⟩
  rw [heap_setCell_at, heap_setCell_at, h.cell]
  rfl

/-- The map of what is now is turned. -/
theorem TrM.put {k' : Nat} (h : TrM B w t k dv b N os dsv ov) (hk : k ≤ k') (hg : Chg (fun z => z = b) w W) (hmap : MapAt W b k' N') : TrM B W t k' dv b N' os dsv ov :=
  ⟨heap_chg h.cell hg (fun e => h.now.ne h.cell e.symm), own_chg h.deeds hg (fun z hz e => h.now.nown h.deeds (by rw [hz, e])), hmap, own_chg h.opens hg (fun z hz e => h.now.nown h.opens (by rw [hz, e])), fun o ho => ((h.maps o ho).chg hg (h.nb o ho)).mono hk, h.tB, h.bB, h.oB, h.nb, h.no⟩

end Go.Proofs.YtffgkocokkhahaaGreatDoor

/- What the program's text lays into the errors that a memory store may tell, as a walk wants it; a world that has them. -/
namespace Go.Proofs.YtffgkocokkhahaaGreatDoor
open Go.ChangeShapes Go.WideShapes Go.RowKit
set_option maxRecDepth 100000

theorem mglob0 : Tryz.prog.globalNamed "pub-quern/pub/ql.errCommitNotInTransaction" = some 1 := by kernel_rfl
theorem mglobType0 : (Tryz.prog.globals[1]?).map (·.type) = some 69 := by kernel_rfl
theorem mglob1 : Tryz.prog.globalNamed "pub-quern/pub/ql.errDivByZero" = some 0 := by kernel_rfl
theorem mglobType1 : (Tryz.prog.globals[0]?).map (·.type) = some 69 := by kernel_rfl
theorem mglob2 : Tryz.prog.globalNamed "pub-quern/pub/ql.errNoDataForHandle" = some 3 := by kernel_rfl
theorem mglobType2 : (Tryz.prog.globals[3]?).map (·.type) = some 69 := by kernel_rfl
theorem mglob3 : Tryz.prog.globalNamed "pub-quern/pub/ql.errRollbackNotInTransaction" = some 2 := by kernel_rfl
theorem mglobType3 : (Tryz.prog.globals[2]?).map (·.type) = some 69 := by kernel_rfl
theorem mcellsE : Tryz.prog.cellsOf 196 = 1 := by kernel_rfl
theorem mstarE : "*" ++ "errors.errorString" = "*errors.errorString" := by decide
theorem mrowE (u : TypeId) (h : Tryz.prog.typeName? 3 u = some "*errors.errorString") : u = 194 :=
  typeName_ptr_named (nm := "errors.errorString") (by rw [mstarE]; kernel_rfl) (by kernel_rfl) (by decide) u (by rw [mstarE]; exact h)

abbrev mlaid : List (String × DataW Unit) := [("pub-quern/pub/ql.errCommitNotInTransaction", Rows.laid_pub_quern_pub_ql_errCommitNotInTransaction), ("pub-quern/pub/ql.errDivByZero", Rows.laid_pub_quern_pub_ql_errDivByZero), ("pub-quern/pub/ql.errNoDataForHandle", Rows.laid_pub_quern_pub_ql_errNoDataForHandle), ("pub-quern/pub/ql.errRollbackNotInTransaction", Rows.laid_pub_quern_pub_ql_errRollbackNotInTransaction)]

theorem errs_of_laid {W : World} (h : laidMet Tryz.prog mlaid W) : ∃ a, ErrsOk W a := by
  obtain ⟨ps, hps, hnd, hrows⟩ := h
  obtain ⟨g0, t0, cs0, f0, p0, q0, hg0, ht0, hv0, hd0, ⟨g1, t1, cs1, f1, p1, q1, hg1, ht1, hv1, hd1, ⟨g2, t2, cs2, f2, p2, q2, hg2, ht2, hv2, hd2, ⟨g3, t3, cs3, f3, p3, q3, hg3, ht3, hv3, hd3, hq3, e3⟩, e2⟩, e1⟩, e0⟩ := hps
  obtain rfl := Option.some.inj (mglob0.symm.trans hg0)
  obtain rfl := Option.some.inj (mglobType0.symm.trans ht0)
  obtain rfl := Option.some.inj (mglob1.symm.trans hg1)
  obtain rfl := Option.some.inj (mglobType1.symm.trans ht1)
  obtain rfl := Option.some.inj (mglob2.symm.trans hg2)
  obtain rfl := Option.some.inj (mglobType2.symm.trans ht2)
  obtain rfl := Option.some.inj (mglob3.symm.trans hg3)
  obtain rfl := Option.some.inj (mglobType3.symm.trans ht3)
  have hq3' : q3 = [] := hq3
  subst hq3'
  subst e3
  subst e2
  subst e1
  subst e0
  obtain ⟨l0⟩ := cs0
  have ok0 : ∀ u v, l0 = [.iface u v] → Value.okWide Tryz.prog W .any 0 u v := fun u v e => by
    subst e
    exact (hrows 1 0 (by simp [MemPlace.row])).2 u v (by simpa using World.var?_cell hg0 hv0 0)
  obtain ⟨a0, s0, rfl, hc0, hs0, hz0, rfl⟩ := errorString_of_trod Tryz.underlying69 mrowE Tryz.underlying194 Tryz.underlying196 rfl rfl Tryz.underlying9 mcellsE cellsS hd0 ok0
  obtain ⟨l1⟩ := cs1
  have ok1 : ∀ u v, l1 = [.iface u v] → Value.okWide Tryz.prog W .any 0 u v := fun u v e => by
    subst e
    exact (hrows 0 0 (by simp [MemPlace.row])).2 u v (by simpa using World.var?_cell hg1 hv1 0)
  obtain ⟨a1, s1, rfl, hc1, hs1, hz1, rfl⟩ := errorString_of_trod Tryz.underlying69 mrowE Tryz.underlying194 Tryz.underlying196 rfl rfl Tryz.underlying9 mcellsE cellsS hd1 ok1
  obtain ⟨l2⟩ := cs2
  have ok2 : ∀ u v, l2 = [.iface u v] → Value.okWide Tryz.prog W .any 0 u v := fun u v e => by
    subst e
    exact (hrows 3 0 (by simp [MemPlace.row])).2 u v (by simpa using World.var?_cell hg2 hv2 0)
  obtain ⟨a2, s2, rfl, hc2, hs2, hz2, rfl⟩ := errorString_of_trod Tryz.underlying69 mrowE Tryz.underlying194 Tryz.underlying196 rfl rfl Tryz.underlying9 mcellsE cellsS hd2 ok2
  obtain ⟨l3⟩ := cs3
  have ok3 : ∀ u v, l3 = [.iface u v] → Value.okWide Tryz.prog W .any 0 u v := fun u v e => by
    subst e
    exact (hrows 2 0 (by simp [MemPlace.row])).2 u v (by simpa using World.var?_cell hg3 hv3 0)
  obtain ⟨a3, s3, rfl, hc3, hs3, hz3, rfl⟩ := errorString_of_trod Tryz.underlying69 mrowE Tryz.underlying194 Tryz.underlying196 rfl rfl Tryz.underlying9 mcellsE cellsS hd3 ok3
  have lt : ∀ {g : Nat} {v : Value}, W.cell? ⟨g, 0, none⟩ = some v → g < W.heap.size := fun {g v} hc => by
    rcases Nat.lt_or_ge g W.heap.size with h' | h'
    · exact h'
    · simp [World.cell?, Array.getElem?_eq_none h'] at hc
  have hc0' : W.cell? ⟨1, 0, none⟩ = some (.iface 194 (.pointer (some a0))) := by simpa using World.var?_cell mglob0 hv0 0
  obtain ⟨cc0, u0, hb0⟩ := (hrows a0.block a0.off (by simp [MemPlace.row])).1
  have hc1' : W.cell? ⟨0, 0, none⟩ = some (.iface 194 (.pointer (some a1))) := by simpa using World.var?_cell mglob1 hv1 0
  obtain ⟨cc1, u1, hb1⟩ := (hrows a1.block a1.off (by simp [MemPlace.row])).1
  have hc3' : W.cell? ⟨2, 0, none⟩ = some (.iface 194 (.pointer (some a3))) := by simpa using World.var?_cell mglob3 hv3 0
  obtain ⟨cc3, u3, hb3⟩ := (hrows a3.block a3.off (by simp [MemPlace.row])).1
  refine ⟨a1, ⟨lt hc1', hc1', cc1, u1, hb1⟩, ⟨a0, lt hc0', hc0', ⟨cc0, u0, hb0⟩, fun e => ?_⟩, a3, lt hc3', hc3', ⟨cc3, u3, hb3⟩, fun e => ?_⟩
  · subst e
    simp [MemPlace.row] at hnd
  · subst e
    simp [MemPlace.row] at hnd

abbrev mS0 : ByteArray := { data := #[67, 79, 77, 77, 73, 84, 58, 32, 78, 111, 116, 32, 105, 110, 32, 116, 114, 97, 110, 115, 97, 99, 116, 105, 111, 110] }
abbrev mS1 : ByteArray := { data := #[100, 105, 118, 105, 115, 105, 111, 110, 32, 98, 121, 32, 122, 101, 114, 111] }
abbrev mS2 : ByteArray := { data := #[114, 101, 97, 100, 58, 32, 110, 111, 32, 100, 97, 116, 97, 32, 102, 111, 114, 32, 104, 97, 110, 100, 108, 101] }
abbrev mS3 : ByteArray := { data := #[82, 79, 76, 76, 66, 65, 67, 75, 58, 32, 78, 111, 116, 32, 105, 110, 32, 116, 114, 97, 110, 115, 97, 99, 116, 105, 111, 110] }
noncomputable def mlow : Nat := (World.holding Tryz.prog default ⟨#[], #[], []⟩).heap.size
def mputErr (k : Nat) : Obj → Obj
  | .cells _ t frozen => .cells #[.iface 194 (.pointer (some ⟨k, 0, none⟩))] t frozen
  | o => o
noncomputable def mlaidWorld (os : Os) : World :=
  let w0 := World.holding Tryz.prog os ⟨#[.cells #[.string mS0] 196, .cells #[.string mS1] 196, .cells #[.string mS2] 196, .cells #[.string mS3] 196], #[], []⟩
  { w0 with heap := (((w0.heap.modify 1 (mputErr mlow)).modify 0 (mputErr (mlow + 1))).modify 3 (mputErr (mlow + 2))).modify 2 (mputErr (mlow + 3)) }
theorem mlaidWorld_met (os : Os) (args : Array Value) : laidMet Tryz.prog mlaid ((mlaidWorld os).forCall (fun _ _ => 0) ⟨#[], args, []⟩).memory :=
  laidMet_of_run (ps := [.cell 1 0, .cell (mlow) 0, .cell 0 0, .cell (mlow + 1) 0, .cell 3 0, .cell (mlow + 2) 0, .cell 2 0, .cell (mlow + 3) 0]) 8 (by kernel_rfl) (by kernel_rfl) (by kernel_rfl)

end Go.Proofs.YtffgkocokkhahaaGreatDoor
