/-
  Walking the tree: (*xenumerator).next, prev. || Walking the tree: (*xenumerator).Next, Prev at a place. PRINTED BY wip/tpl/gen_xh.py.
-/
import Derived.Test.YtffgkocokkhahaaDoorIxu12

/- Walking the tree: (*xenumerator).next, prev. -/
namespace Go.Proofs.YtffgkocokkhahaaDoor
open Go.RowKit

/-- What goes through the tree. -/
def EnumAt (w : World) (b : Nat) (err : Value) (hit : Bool) (i : Int) (kv : Value) (kh : Int) (q : Value) (t : Nat) (ver : Int) (uni : Bool) : Prop :=
  w.heap[b]? = some (.cells #[err, .bool hit, .int .i64 i, kv, .int .i64 kh, q, ptr t, .int .i64 ver, .bool uni] 194 (0, 0))

/-- The end's own error. -/
structure HasEof (w : World) (E : Value) : Prop where
  lt : 0 < w.heap.size
  cell : w.cell? ⟨0, 0, none⟩ = some E
  form : ∃ a, E = .iface 246 (.pointer (some a))
theorem HasEof.below {w w' : World} {E : Value} (h : HasEof w E) (hb : Below w.heap.size w w') : HasEof w' E :=
  ⟨Nat.lt_of_lt_of_le h.lt hb.size, by rw [hb.cell (p := ⟨0, 0, none⟩) h.lt]; exact h.cell, h.form⟩
theorem HasEof.chg {S : Nat → Prop} {w w' : World} {E : Value} (h : HasEof w E) (hc : Chg S w w') (hn : ¬ S 0) : HasEof w' E :=
  ⟨Nat.lt_of_lt_of_le h.lt hc.size, by rw [World.cell?_of_block (w := w) (hc.block _ h.lt hn)]; exact h.cell, h.form⟩

set_option maxRecDepth 100000 in
set_option maxHeartbeats 1000000 in
/-- On within a page. -/
theorem next_in (b q i : Nat) (hit : Bool) (kv : Value) (kh : Int) (t : Nat) (ver : Int) (uni : Bool) (es : List XE) (rest : List Value) (nx pv : Value) (w : World)
    (he : EnumAt w b .nilIface hit i kv kh (ptr q) t ver uni) (hq : PageAt w q es rest nx pv) (hi : i + 1 < es.length) :
    Calls Tryd.prog 163 #[.pointer (some ⟨b, 0, none⟩)] w fun y w' => y = .returned .nilIface ∧ EnumAt w' b .nilIface hit ((i + 1 : Nat) : Int) kv kh (ptr q) t ver uni ∧ Chg (fun k => k = b) w w' := by
  have hle := hq.le
  have c0 : w.cell? ⟨b, 0, none⟩ = some .nilIface := cell_of_heap he 0
  have c2 : w.cell? ⟨b, 2, none⟩ = some (.int .i64 i) := cell_of_heap he 2
  have c5 : w.cell? ⟨b, 5, none⟩ = some (.pointer (some ⟨q, 0, none⟩)) := cell_of_heap he 5
  have f2 : w.frozen? ⟨b, 2, none⟩ = false := free_of_heap he 2
  have cq : w.cell? ⟨q, 0, none⟩ = some (.int .i64 es.length) := by rw [hq.cell]; rfl
  have hlt : (i : Int) < ↑es.length - 1 := by omega
  have hw : IntKind.i64.wrap (↑es.length - 1) = (es.length : Int) - 1 := IntWalk.i64_in _ (by omega)
  have HE := Lib.hid he
  clear he hq
  go_enter Tryd.func163, Tryd.ntmps163
  go_wp2
  go_still_tail 13, (by kernel_rfl)
  change wpList _ _ _ _ _ w.drew
  go_wp2
  go_ret
  refine ⟨rfl, ?_, (Chg.setCell (Chg.refl (fun k => k = b) w) (p := ⟨b, 2, none⟩) (.inl rfl) _).drew⟩
  unfold EnumAt
  simp only [heap_drew, heap_setCell_at, show w.heap[b]? = _ from HE.out, Option.map_some, updObj_cells]
  rfl

set_option maxRecDepth 100000 in
set_option maxHeartbeats 1000000 in
/-- On to the next page. -/
theorem next_page (b q i q2 : Nat) (hit : Bool) (kv : Value) (kh : Int) (t : Nat) (ver : Int) (uni : Bool) (es : List XE) (rest : List Value) (pv : Value) (w : World)
    (he : EnumAt w b .nilIface hit i kv kh (ptr q) t ver uni) (hq : PageAt w q es rest (ptr q2) pv) (hi : i + 1 = es.length) :
    Calls Tryd.prog 163 #[.pointer (some ⟨b, 0, none⟩)] w fun y w' => y = .returned .nilIface ∧ EnumAt w' b .nilIface hit ((0 : Nat) : Int) kv kh (ptr q2) t ver uni ∧ Chg (fun k => k = b) w w' := by
  have hle := hq.le
  have hroom := hq.room
  have c0 : w.cell? ⟨b, 0, none⟩ = some .nilIface := cell_of_heap he 0
  have c2 : w.cell? ⟨b, 2, none⟩ = some (.int .i64 i) := cell_of_heap he 2
  have c5 : w.cell? ⟨b, 5, none⟩ = some (.pointer (some ⟨q, 0, none⟩)) := cell_of_heap he 5
  have f2 : w.frozen? ⟨b, 2, none⟩ = false := free_of_heap he 2
  have f5 : w.frozen? ⟨b, 5, none⟩ = false := free_of_heap he 5
  have cq : w.cell? ⟨q, 0, none⟩ = some (.int .i64 es.length) := by rw [hq.cell]; rfl
  have cn : w.cell? ⟨q, 388, none⟩ = some (.pointer (some ⟨q2, 0, none⟩)) := by rw [hq.cell, pgL_tail XE.cells 3 XE.three es rest _ 388 0 (by omega)]; rfl
  have hlt : ((i : Int) < ↑es.length - 1) = False := by simp; omega
  have hw : IntKind.i64.wrap (↑es.length - 1) = (es.length : Int) - 1 := IntWalk.i64_in _ (by omega)
  have hbq : ¬ b = q := tag_ne he hq.heap (by decide)
  have hqb : ¬ q = b := fun h => hbq h.symm
  have HE := Lib.hid he
  clear he hq
  go_enter Tryd.func163, Tryd.ntmps163
  go_wp2
  go_still_tail 13, (by kernel_rfl)
  change wpList _ _ _ _ _ w.drew
  go_wp2
  go_ret
  refine ⟨rfl, ?_, (Chg.setCell (Chg.setCell (Chg.refl (fun k => k = b) w).drew (p := ⟨b, 5, none⟩) (.inl rfl) _) (p := ⟨b, 2, none⟩) (.inl rfl) _)⟩
  unfold EnumAt
  simp only [heap_drew, heap_setCell_at, show w.heap[b]? = _ from HE.out, Option.map_some, updObj_cells]
  rfl

set_option maxRecDepth 100000 in
set_option maxHeartbeats 1000000 in
/-- Behind the last page. -/
theorem next_end (b q i : Nat) (hit : Bool) (kv : Value) (kh : Int) (t : Nat) (ver : Int) (uni : Bool) (es : List XE) (rest : List Value) (pv : Value) (E : Value) (w : World)
    (he : EnumAt w b .nilIface hit i kv kh (ptr q) t ver uni) (hq : PageAt w q es rest (.pointer none) pv) (hi : i + 1 = es.length) (hE : HasEof w E) (hbg : ¬ 0 = b) :
    Calls Tryd.prog 163 #[.pointer (some ⟨b, 0, none⟩)] w fun y w' => y = .returned E ∧ EnumAt w' b E hit ((0 : Nat) : Int) kv kh (.pointer none) t ver uni ∧ Chg (fun k => k = b) w w' := by
  have hle := hq.le
  have hroom := hq.room
  have c0 : w.cell? ⟨b, 0, none⟩ = some .nilIface := cell_of_heap he 0
  have c2 : w.cell? ⟨b, 2, none⟩ = some (.int .i64 i) := cell_of_heap he 2
  have c5 : w.cell? ⟨b, 5, none⟩ = some (.pointer (some ⟨q, 0, none⟩)) := cell_of_heap he 5
  have f0 : w.frozen? ⟨b, 0, none⟩ = false := free_of_heap he 0
  have f2 : w.frozen? ⟨b, 2, none⟩ = false := free_of_heap he 2
  have f5 : w.frozen? ⟨b, 5, none⟩ = false := free_of_heap he 5
  have cq : w.cell? ⟨q, 0, none⟩ = some (.int .i64 es.length) := by rw [hq.cell]; rfl
  have cn : w.cell? ⟨q, 388, none⟩ = some (.pointer none) := by rw [hq.cell, pgL_tail XE.cells 3 XE.three es rest _ 388 0 (by omega)]; rfl
  have hlt : ((i : Int) < ↑es.length - 1) = False := by simp; omega
  have hw : IntKind.i64.wrap (↑es.length - 1) = (es.length : Int) - 1 := IntWalk.i64_in _ (by omega)
  have hbq : ¬ b = q := tag_ne he hq.heap (by decide)
  have hqb : ¬ q = b := fun h => hbq h.symm
  have hbg' : ¬ b = 0 := fun h => hbg h.symm
  have HE := Lib.hid he
  obtain ⟨gl, gc, a, rfl⟩ := hE
  clear he hq
  go_enter Tryd.func163, Tryd.ntmps163
  go_wp2
  go_still_tail 13, (by kernel_rfl)
  change wpList _ _ _ _ _ w.drew
  go_wp2
  go_ret
  refine ⟨rfl, ?_, (Chg.setCell (Chg.setCell (Chg.setCell (Chg.refl (fun k => k = b) w).drew (p := ⟨b, 5, none⟩) (.inl rfl) _) (p := ⟨b, 2, none⟩) (.inl rfl) _) (p := ⟨b, 0, none⟩) (.inl rfl) _)⟩
  unfold EnumAt
  simp only [heap_drew, heap_setCell_at, show w.heap[b]? = _ from HE.out, Option.map_some, updObj_cells]
  rfl

set_option maxRecDepth 100000 in
set_option maxHeartbeats 1000000 in
/-- Back within a page. -/
theorem prev_in (b q i j : Nat) (hit : Bool) (kv : Value) (kh : Int) (t : Nat) (ver : Int) (uni : Bool) (w : World)
    (he : EnumAt w b .nilIface hit i kv kh (ptr q) t ver uni) (hi : i = j + 1) (hb : i ≤ 129) :
    Calls Tryd.prog 164 #[.pointer (some ⟨b, 0, none⟩)] w fun y w' => y = .returned .nilIface ∧ EnumAt w' b .nilIface hit (j : Int) kv kh (ptr q) t ver uni ∧ Chg (fun k => k = b) w w' := by
  have c0 : w.cell? ⟨b, 0, none⟩ = some .nilIface := cell_of_heap he 0
  have c2 : w.cell? ⟨b, 2, none⟩ = some (.int .i64 i) := cell_of_heap he 2
  have c5 : w.cell? ⟨b, 5, none⟩ = some (.pointer (some ⟨q, 0, none⟩)) := cell_of_heap he 5
  have f2 : w.frozen? ⟨b, 2, none⟩ = false := free_of_heap he 2
  have hi0 : 0 < i := by omega
  have hj : (i : Int) - 1 = (j : Int) := by omega
  have HE := Lib.hid he
  clear he hi
  go_enter Tryd.func164, Tryd.ntmps164
  go_wp2
  go_ret
  refine ⟨rfl, ?_, Chg.setCell (Chg.refl (fun k => k = b) w) (p := ⟨b, 2, none⟩) (.inl rfl) _⟩
  unfold EnumAt
  simp only [heap_setCell_at, show w.heap[b]? = _ from HE.out, Option.map_some, updObj_cells]
  rfl

set_option maxRecDepth 100000 in
set_option maxHeartbeats 1000000 in
/-- Back to the page ahead. -/
theorem prev_page (b q q2 j : Nat) (hit : Bool) (kv : Value) (kh : Int) (t : Nat) (ver : Int) (uni : Bool) (es es2 : List XE) (rest rest2 : List Value) (nx nx2 pv2 : Value) (w : World)
    (he : EnumAt w b .nilIface hit ((0 : Nat) : Int) kv kh (ptr q) t ver uni) (hq : PageAt w q es rest nx (ptr q2)) (hq2 : PageAt w q2 es2 rest2 nx2 pv2) (hj : es2.length = j + 1) :
    Calls Tryd.prog 164 #[.pointer (some ⟨b, 0, none⟩)] w fun y w' => y = .returned .nilIface ∧ EnumAt w' b .nilIface hit (j : Int) kv kh (ptr q2) t ver uni ∧ Chg (fun k => k = b) w w' := by
  have hle := hq2.le
  have hroom := hq.room
  have c0 : w.cell? ⟨b, 0, none⟩ = some .nilIface := cell_of_heap he 0
  have c2 : w.cell? ⟨b, 2, none⟩ = some (.int .i64 0) := cell_of_heap he 2
  have c5 : w.cell? ⟨b, 5, none⟩ = some (.pointer (some ⟨q, 0, none⟩)) := cell_of_heap he 5
  have f2 : w.frozen? ⟨b, 2, none⟩ = false := free_of_heap he 2
  have f5 : w.frozen? ⟨b, 5, none⟩ = false := free_of_heap he 5
  have cn : w.cell? ⟨q, 389, none⟩ = some (.pointer (some ⟨q2, 0, none⟩)) := by rw [hq.cell, pgL_tail XE.cells 3 XE.three es rest _ 389 1 (by omega)]; rfl
  have cq2 : w.cell? ⟨q2, 0, none⟩ = some (.int .i64 es2.length) := by rw [hq2.cell]; rfl
  have hbq : ¬ b = q := tag_ne he hq.heap (by decide)
  have hqb : ¬ q = b := fun h => hbq h.symm
  have hbq2 : ¬ b = q2 := tag_ne he hq2.heap (by decide)
  have hqb2 : ¬ q2 = b := fun h => hbq2 h.symm
  have hj2 : (es2.length : Int) - 1 = (j : Int) := by omega
  have HE := Lib.hid he
  clear he hq hq2 hj
  go_enter Tryd.func164, Tryd.ntmps164
  go_wp2
  go_ret
  refine ⟨rfl, ?_, Chg.setCell (Chg.setCell (Chg.refl (fun k => k = b) w) (p := ⟨b, 5, none⟩) (.inl rfl) _) (p := ⟨b, 2, none⟩) (.inl rfl) _⟩
  unfold EnumAt
  simp only [heap_setCell_at, show w.heap[b]? = _ from HE.out, Option.map_some, updObj_cells]
  rfl

set_option maxRecDepth 100000 in
set_option maxHeartbeats 1000000 in
/-- Ahead of the first page. -/
theorem prev_end (b q : Nat) (hit : Bool) (kv : Value) (kh : Int) (t : Nat) (ver : Int) (uni : Bool) (es : List XE) (rest : List Value) (nx : Value) (E : Value) (w : World)
    (he : EnumAt w b .nilIface hit ((0 : Nat) : Int) kv kh (ptr q) t ver uni) (hq : PageAt w q es rest nx (.pointer none)) (hE : HasEof w E) (hbg : ¬ 0 = b) :
    Calls Tryd.prog 164 #[.pointer (some ⟨b, 0, none⟩)] w fun y w' => y = .returned E ∧ EnumAt w' b E hit ((0 : Nat) : Int) kv kh (.pointer none) t ver uni ∧ Chg (fun k => k = b) w w' := by
  have hroom := hq.room
  have c0 : w.cell? ⟨b, 0, none⟩ = some .nilIface := cell_of_heap he 0
  have c2 : w.cell? ⟨b, 2, none⟩ = some (.int .i64 0) := cell_of_heap he 2
  have c5 : w.cell? ⟨b, 5, none⟩ = some (.pointer (some ⟨q, 0, none⟩)) := cell_of_heap he 5
  have f0 : w.frozen? ⟨b, 0, none⟩ = false := free_of_heap he 0
  have f5 : w.frozen? ⟨b, 5, none⟩ = false := free_of_heap he 5
  have cn : w.cell? ⟨q, 389, none⟩ = some (.pointer none) := by rw [hq.cell, pgL_tail XE.cells 3 XE.three es rest _ 389 1 (by omega)]; rfl
  have hbq : ¬ b = q := tag_ne he hq.heap (by decide)
  have hqb : ¬ q = b := fun h => hbq h.symm
  have hbg' : ¬ b = 0 := fun h => hbg h.symm
  have HE := Lib.hid he
  obtain ⟨gl, gc, a, rfl⟩ := hE
  clear he hq
  go_enter Tryd.func164, Tryd.ntmps164
  go_wp2
  go_ret
  refine ⟨rfl, ?_, Chg.setCell (Chg.setCell (Chg.refl (fun k => k = b) w) (p := ⟨b, 5, none⟩) (.inl rfl) _) (p := ⟨b, 0, none⟩) (.inl rfl) _⟩
  unfold EnumAt
  simp only [heap_setCell_at, show w.heap[b]? = _ from HE.out, Option.map_some, updObj_cells]
  rfl

end Go.Proofs.YtffgkocokkhahaaDoor

/- Walking the tree: (*xenumerator).Next, Prev at a place. PRINTED BY wip/tpl/gen_xh.py. -/
namespace Go.Proofs.YtffgkocokkhahaaDoor
open Go.RowKit

set_option maxRecDepth 100000 in
set_option maxHeartbeats 1000000 in
theorem Next_at (b q i : Nat) (hit : Bool) (kv : Value) (kh : Int) (t : Nat) (ver : Int) (uni : Bool) (es : List XE) (rest : List Value) (nx pv : Value) (x : XE) (c : Int) (fi la r : Value) (w : World)
    (he : EnumAt w b .nilIface hit i kv kh (ptr q) t ver uni) (hq : PageAt w q es rest nx pv) (hi : es[i]? = some x) (ht : TreeW w t c fi la r ver) (kv1 : ∃ A m p, kv = .slice A m p) (R : Value) (i' : Nat) (q' : Value)
    (HN : Hid (∀ w1, Chg (fun k => k = b) w w1 → EnumAt w1 b .nilIface false i (.slice x.A x.m x.p) x.h (ptr q) t ver uni → Calls Tryd.prog 163 #[.pointer (some ⟨b, 0, none⟩)] w1
      fun y w' => y = .returned R ∧ EnumAt w' b R false i' (.slice x.A x.m x.p) x.h q' t ver uni ∧ Chg (fun k => k = b) w1 w')) :
    Calls Tryd.prog 161 #[.pointer (some ⟨b, 0, none⟩)] w
      fun y w' => y = .returned (.tuple #[.agg #[.slice x.A x.m x.p, .int .i64 x.h], .int .i64 x.n, .nilIface]) ∧ EnumAt w' b R false i' (.slice x.A x.m x.p) x.h q' t ver uni ∧ Chg (fun k => k = b) w w' := by
  have hle := hq.le
  have hin : i < es.length := (List.getElem?_eq_some_iff.1 hi).1
  obtain ⟨A, m, p, rfl⟩ := kv1
  have HE := Lib.hid he
  have HQ := Lib.hid hq
  have HT := Lib.hid ht
  have HI := Lib.hid hi
  have hg : ((es.length : Int) ≤ i) = False := by simp; omega
  have hi1 : (i : Int) < 129 := by omega
  have hi2 : (0 : Int) ≤ i := by omega
  have hvv : (ver != ver) = false := by simp
  have hcc : (w.alloc (.cells #[.slice none 0 0, .int .i64 0] 180)).heap[w.heap.size]? = some (.cells #[.slice none 0 0, .int .i64 0] 180 (0, 0)) := heap_new w _
  have HKA := Lib.hid hcc
  clear he hq ht hi hcc
  have c0 : w.cell? ⟨b, 0, none⟩ = some .nilIface := cell_of_heap (heap_below HE.out (Below.refl _ _)) 0
  have c1 : w.cell? ⟨b, 1, none⟩ = some (.bool hit) := cell_of_heap (heap_below HE.out (Below.refl _ _)) 1
  have c2 : w.cell? ⟨b, 2, none⟩ = some (.int .i64 i) := cell_of_heap (heap_below HE.out (Below.refl _ _)) 2
  have c3 : w.cell? ⟨b, 3, none⟩ = some (.slice A m p) := cell_of_heap (heap_below HE.out (Below.refl _ _)) 3
  have c4 : w.cell? ⟨b, 4, none⟩ = some (.int .i64 kh) := cell_of_heap (heap_below HE.out (Below.refl _ _)) 4
  have c5 : w.cell? ⟨b, 5, none⟩ = some (.pointer (some ⟨q, 0, none⟩)) := cell_of_heap (heap_below HE.out (Below.refl _ _)) 5
  have c6 : w.cell? ⟨b, 6, none⟩ = some (.pointer (some ⟨t, 0, none⟩)) := cell_of_heap (heap_below HE.out (Below.refl _ _)) 6
  have c7 : w.cell? ⟨b, 7, none⟩ = some (.int .i64 ver) := cell_of_heap (heap_below HE.out (Below.refl _ _)) 7
  have f1 : w.frozen? ⟨b, 1, none⟩ = false := free_of_heap (heap_below HE.out (Below.refl _ _)) 1
  have f3 : w.frozen? ⟨b, 3, none⟩ = false := free_of_heap (heap_below HE.out (Below.refl _ _)) 3
  have f4 : w.frozen? ⟨b, 4, none⟩ = false := free_of_heap (heap_below HE.out (Below.refl _ _)) 4
  have cq : w.cell? ⟨q, 0, none⟩ = some (.int .i64 es.length) := by rw [(HQ.out.below (Below.refl _ _)).cell]; rfl
  have ct : w.cell? ⟨t, 4, none⟩ = some (.int .i64 ver) := cell_of_heap (heap_below HT.out (Below.refl _ _)) 4
  have e0 : w.cell? ⟨q, 1 + i * 3, none⟩ = some (.slice x.A x.m x.p) := ((HQ.out.below (Below.refl _ _)).cell _).trans (pgL_at XE.cells 3 XE.three es rest [nx, pv] i 0 x _ HI.out (by omega) rfl)
  have e1 : w.cell? ⟨q, 1 + i * 3 + 1, none⟩ = some (.int .i64 x.h) := ((HQ.out.below (Below.refl _ _)).cell _).trans (pgL_at XE.cells 3 XE.three es rest [nx, pv] i 1 x _ HI.out (by omega) rfl)
  have e2 : w.cell? ⟨q, 1 + i * 3 + 2, none⟩ = some (.int .i64 x.n) := ((HQ.out.below (Below.refl _ _)).cell _).trans (pgL_at XE.cells 3 XE.three es rest [nx, pv] i 2 x _ HI.out (by omega) rfl)
  have lb : b < w.heap.size := lt_of_heap (heap_below HE.out (Below.refl _ _))
  have lq : q < w.heap.size := (HQ.out.below (Below.refl _ _)).lt
  have lt : t < w.heap.size := lt_of_heap (heap_below HT.out (Below.refl _ _))
  go_enter Tryd.func161, Tryd.ntmps161
  go_wp2_with fail
  obtain ⟨wa, hwa⟩ : ∃ wa, wa = w.alloc (.cells #[.slice none 0 0, .int .i64 0] 180) := ⟨_, rfl⟩
  rw [← hwa]
  have HBA := Lib.hid (show Below w.heap.size w wa by rw [hwa]; exact (Below.refl _ _).alloc (Nat.le_refl _) _)
  rw [← hwa] at HKA
  clear c0 c1 c2 c3 c4 c5 c6 c7 f1 f3 f4 cq ct e0 e1 e2 lb lq lt
  have c0 : wa.cell? ⟨b, 0, none⟩ = some .nilIface := cell_of_heap (heap_below HE.out HBA.out) 0
  have c1 : wa.cell? ⟨b, 1, none⟩ = some (.bool hit) := cell_of_heap (heap_below HE.out HBA.out) 1
  have c2 : wa.cell? ⟨b, 2, none⟩ = some (.int .i64 i) := cell_of_heap (heap_below HE.out HBA.out) 2
  have c3 : wa.cell? ⟨b, 3, none⟩ = some (.slice A m p) := cell_of_heap (heap_below HE.out HBA.out) 3
  have c4 : wa.cell? ⟨b, 4, none⟩ = some (.int .i64 kh) := cell_of_heap (heap_below HE.out HBA.out) 4
  have c5 : wa.cell? ⟨b, 5, none⟩ = some (.pointer (some ⟨q, 0, none⟩)) := cell_of_heap (heap_below HE.out HBA.out) 5
  have c6 : wa.cell? ⟨b, 6, none⟩ = some (.pointer (some ⟨t, 0, none⟩)) := cell_of_heap (heap_below HE.out HBA.out) 6
  have c7 : wa.cell? ⟨b, 7, none⟩ = some (.int .i64 ver) := cell_of_heap (heap_below HE.out HBA.out) 7
  have f1 : wa.frozen? ⟨b, 1, none⟩ = false := free_of_heap (heap_below HE.out HBA.out) 1
  have f3 : wa.frozen? ⟨b, 3, none⟩ = false := free_of_heap (heap_below HE.out HBA.out) 3
  have f4 : wa.frozen? ⟨b, 4, none⟩ = false := free_of_heap (heap_below HE.out HBA.out) 4
  have cq : wa.cell? ⟨q, 0, none⟩ = some (.int .i64 es.length) := by rw [(HQ.out.below HBA.out).cell]; rfl
  have ct : wa.cell? ⟨t, 4, none⟩ = some (.int .i64 ver) := cell_of_heap (heap_below HT.out HBA.out) 4
  have e0 : wa.cell? ⟨q, 1 + i * 3, none⟩ = some (.slice x.A x.m x.p) := ((HQ.out.below HBA.out).cell _).trans (pgL_at XE.cells 3 XE.three es rest [nx, pv] i 0 x _ HI.out (by omega) rfl)
  have e1 : wa.cell? ⟨q, 1 + i * 3 + 1, none⟩ = some (.int .i64 x.h) := ((HQ.out.below HBA.out).cell _).trans (pgL_at XE.cells 3 XE.three es rest [nx, pv] i 1 x _ HI.out (by omega) rfl)
  have e2 : wa.cell? ⟨q, 1 + i * 3 + 2, none⟩ = some (.int .i64 x.n) := ((HQ.out.below HBA.out).cell _).trans (pgL_at XE.cells 3 XE.three es rest [nx, pv] i 2 x _ HI.out (by omega) rfl)
  have lb : b < wa.heap.size := lt_of_heap (heap_below HE.out HBA.out)
  have lq : q < wa.heap.size := (HQ.out.below HBA.out).lt
  have lt : t < wa.heap.size := lt_of_heap (heap_below HT.out HBA.out)
  clear hwa
  go_still_tail 11, (by kernel_rfl)
  obtain ⟨wb, hwb⟩ : ∃ wb, wb = wa.drew := ⟨_, rfl⟩
  change wpList _ _ _ _ _ wa.drew
  rw [← hwb]
  have HBB := Lib.hid (show Below w.heap.size w wb by rw [hwb]; exact HBA.out.drew)
  have HKB := Lib.hid (show wb.heap[w.heap.size]? = some (.cells #[.slice none 0 0, .int .i64 0] 180 (0, 0)) by rw [hwb]; exact HKA.out)
  clear c0 c1 c2 c3 c4 c5 c6 c7 f1 f3 f4 cq ct e0 e1 e2 lb lq lt
  have c0 : wb.cell? ⟨b, 0, none⟩ = some .nilIface := cell_of_heap (heap_below HE.out HBB.out) 0
  have c1 : wb.cell? ⟨b, 1, none⟩ = some (.bool hit) := cell_of_heap (heap_below HE.out HBB.out) 1
  have c2 : wb.cell? ⟨b, 2, none⟩ = some (.int .i64 i) := cell_of_heap (heap_below HE.out HBB.out) 2
  have c3 : wb.cell? ⟨b, 3, none⟩ = some (.slice A m p) := cell_of_heap (heap_below HE.out HBB.out) 3
  have c4 : wb.cell? ⟨b, 4, none⟩ = some (.int .i64 kh) := cell_of_heap (heap_below HE.out HBB.out) 4
  have c5 : wb.cell? ⟨b, 5, none⟩ = some (.pointer (some ⟨q, 0, none⟩)) := cell_of_heap (heap_below HE.out HBB.out) 5
  have c6 : wb.cell? ⟨b, 6, none⟩ = some (.pointer (some ⟨t, 0, none⟩)) := cell_of_heap (heap_below HE.out HBB.out) 6
  have c7 : wb.cell? ⟨b, 7, none⟩ = some (.int .i64 ver) := cell_of_heap (heap_below HE.out HBB.out) 7
  have f1 : wb.frozen? ⟨b, 1, none⟩ = false := free_of_heap (heap_below HE.out HBB.out) 1
  have f3 : wb.frozen? ⟨b, 3, none⟩ = false := free_of_heap (heap_below HE.out HBB.out) 3
  have f4 : wb.frozen? ⟨b, 4, none⟩ = false := free_of_heap (heap_below HE.out HBB.out) 4
  have cq : wb.cell? ⟨q, 0, none⟩ = some (.int .i64 es.length) := by rw [(HQ.out.below HBB.out).cell]; rfl
  have ct : wb.cell? ⟨t, 4, none⟩ = some (.int .i64 ver) := cell_of_heap (heap_below HT.out HBB.out) 4
  have e0 : wb.cell? ⟨q, 1 + i * 3, none⟩ = some (.slice x.A x.m x.p) := ((HQ.out.below HBB.out).cell _).trans (pgL_at XE.cells 3 XE.three es rest [nx, pv] i 0 x _ HI.out (by omega) rfl)
  have e1 : wb.cell? ⟨q, 1 + i * 3 + 1, none⟩ = some (.int .i64 x.h) := ((HQ.out.below HBB.out).cell _).trans (pgL_at XE.cells 3 XE.three es rest [nx, pv] i 1 x _ HI.out (by omega) rfl)
  have e2 : wb.cell? ⟨q, 1 + i * 3 + 2, none⟩ = some (.int .i64 x.n) := ((HQ.out.below HBB.out).cell _).trans (pgL_at XE.cells 3 XE.three es rest [nx, pv] i 2 x _ HI.out (by omega) rfl)
  have lb : b < wb.heap.size := lt_of_heap (heap_below HE.out HBB.out)
  have lq : q < wb.heap.size := (HQ.out.below HBB.out).lt
  have lt : t < wb.heap.size := lt_of_heap (heap_below HT.out HBB.out)
  clear hwb
  go_wp2_with fail
  go_still_tail 11, (by kernel_rfl)
  obtain ⟨wc, hwc⟩ : ∃ wc, wc = wb.drew := ⟨_, rfl⟩
  change wpList _ _ _ _ _ wb.drew
  rw [← hwc]
  have HBC := Lib.hid (show Below w.heap.size w wc by rw [hwc]; exact HBB.out.drew)
  have HKC := Lib.hid (show wc.heap[w.heap.size]? = some (.cells #[.slice none 0 0, .int .i64 0] 180 (0, 0)) by rw [hwc]; exact HKB.out)
  clear c0 c1 c2 c3 c4 c5 c6 c7 f1 f3 f4 cq ct e0 e1 e2 lb lq lt
  have c0 : wc.cell? ⟨b, 0, none⟩ = some .nilIface := cell_of_heap (heap_below HE.out HBC.out) 0
  have c1 : wc.cell? ⟨b, 1, none⟩ = some (.bool hit) := cell_of_heap (heap_below HE.out HBC.out) 1
  have c2 : wc.cell? ⟨b, 2, none⟩ = some (.int .i64 i) := cell_of_heap (heap_below HE.out HBC.out) 2
  have c3 : wc.cell? ⟨b, 3, none⟩ = some (.slice A m p) := cell_of_heap (heap_below HE.out HBC.out) 3
  have c4 : wc.cell? ⟨b, 4, none⟩ = some (.int .i64 kh) := cell_of_heap (heap_below HE.out HBC.out) 4
  have c5 : wc.cell? ⟨b, 5, none⟩ = some (.pointer (some ⟨q, 0, none⟩)) := cell_of_heap (heap_below HE.out HBC.out) 5
  have c6 : wc.cell? ⟨b, 6, none⟩ = some (.pointer (some ⟨t, 0, none⟩)) := cell_of_heap (heap_below HE.out HBC.out) 6
  have c7 : wc.cell? ⟨b, 7, none⟩ = some (.int .i64 ver) := cell_of_heap (heap_below HE.out HBC.out) 7
  have f1 : wc.frozen? ⟨b, 1, none⟩ = false := free_of_heap (heap_below HE.out HBC.out) 1
  have f3 : wc.frozen? ⟨b, 3, none⟩ = false := free_of_heap (heap_below HE.out HBC.out) 3
  have f4 : wc.frozen? ⟨b, 4, none⟩ = false := free_of_heap (heap_below HE.out HBC.out) 4
  have cq : wc.cell? ⟨q, 0, none⟩ = some (.int .i64 es.length) := by rw [(HQ.out.below HBC.out).cell]; rfl
  have ct : wc.cell? ⟨t, 4, none⟩ = some (.int .i64 ver) := cell_of_heap (heap_below HT.out HBC.out) 4
  have e0 : wc.cell? ⟨q, 1 + i * 3, none⟩ = some (.slice x.A x.m x.p) := ((HQ.out.below HBC.out).cell _).trans (pgL_at XE.cells 3 XE.three es rest [nx, pv] i 0 x _ HI.out (by omega) rfl)
  have e1 : wc.cell? ⟨q, 1 + i * 3 + 1, none⟩ = some (.int .i64 x.h) := ((HQ.out.below HBC.out).cell _).trans (pgL_at XE.cells 3 XE.three es rest [nx, pv] i 1 x _ HI.out (by omega) rfl)
  have e2 : wc.cell? ⟨q, 1 + i * 3 + 2, none⟩ = some (.int .i64 x.n) := ((HQ.out.below HBC.out).cell _).trans (pgL_at XE.cells 3 XE.three es rest [nx, pv] i 2 x _ HI.out (by omega) rfl)
  have lb : b < wc.heap.size := lt_of_heap (heap_below HE.out HBC.out)
  have lq : q < wc.heap.size := (HQ.out.below HBC.out).lt
  have lt : t < wc.heap.size := lt_of_heap (heap_below HT.out HBC.out)
  clear hwc
  go_wp2_with fail
  go_region
  obtain ⟨K, hK⟩ : ∃ K, K = w.heap.size := ⟨_, rfl⟩
  obtain ⟨N, hN⟩ : ∃ N, N = wc.heap.size := ⟨_, rfl⟩
  obtain ⟨wd, hwd⟩ : ∃ wd, wd = (wc.alloc (.cells #[.slice x.A x.m x.p, .int .i64 x.h, .int .i64 x.n] 231)).drew := ⟨_, rfl⟩
  rw [← hwd, ← hK, ← hN]
  have HBD := Lib.hid (show Below w.heap.size w wd by rw [hwd]; exact (HBC.out.alloc HBC.out.size _).drew)
  have hkd : wd.heap[K]? = some (.cells #[.slice none 0 0, .int .i64 0] 180 (0, 0)) := by rw [hwd, hK]; exact heap_old HKC.out _
  have hnd : wd.heap[N]? = some (.cells #[.slice x.A x.m x.p, .int .i64 x.h, .int .i64 x.n] 231 (0, 0)) := by rw [hwd, hN]; exact heap_new wc _
  have hKN : K < N := by rw [hK, hN]; exact lt_of_heap HKC.out
  have hbK : b < K := by rw [hK]; exact lt_of_heap HE.out
  have HKK := Lib.hid hK
  clear c0 c1 c2 c3 c4 c5 c6 c7 f1 f3 f4 cq ct e0 e1 e2 lb lq lt
  have c0 : wd.cell? ⟨b, 0, none⟩ = some .nilIface := cell_of_heap (heap_below HE.out HBD.out) 0
  have c1 : wd.cell? ⟨b, 1, none⟩ = some (.bool hit) := cell_of_heap (heap_below HE.out HBD.out) 1
  have c2 : wd.cell? ⟨b, 2, none⟩ = some (.int .i64 i) := cell_of_heap (heap_below HE.out HBD.out) 2
  have c3 : wd.cell? ⟨b, 3, none⟩ = some (.slice A m p) := cell_of_heap (heap_below HE.out HBD.out) 3
  have c4 : wd.cell? ⟨b, 4, none⟩ = some (.int .i64 kh) := cell_of_heap (heap_below HE.out HBD.out) 4
  have c5 : wd.cell? ⟨b, 5, none⟩ = some (.pointer (some ⟨q, 0, none⟩)) := cell_of_heap (heap_below HE.out HBD.out) 5
  have c6 : wd.cell? ⟨b, 6, none⟩ = some (.pointer (some ⟨t, 0, none⟩)) := cell_of_heap (heap_below HE.out HBD.out) 6
  have c7 : wd.cell? ⟨b, 7, none⟩ = some (.int .i64 ver) := cell_of_heap (heap_below HE.out HBD.out) 7
  have f1 : wd.frozen? ⟨b, 1, none⟩ = false := free_of_heap (heap_below HE.out HBD.out) 1
  have f3 : wd.frozen? ⟨b, 3, none⟩ = false := free_of_heap (heap_below HE.out HBD.out) 3
  have f4 : wd.frozen? ⟨b, 4, none⟩ = false := free_of_heap (heap_below HE.out HBD.out) 4
  have cq : wd.cell? ⟨q, 0, none⟩ = some (.int .i64 es.length) := by rw [(HQ.out.below HBD.out).cell]; rfl
  have ct : wd.cell? ⟨t, 4, none⟩ = some (.int .i64 ver) := cell_of_heap (heap_below HT.out HBD.out) 4
  have e0 : wd.cell? ⟨q, 1 + i * 3, none⟩ = some (.slice x.A x.m x.p) := ((HQ.out.below HBD.out).cell _).trans (pgL_at XE.cells 3 XE.three es rest [nx, pv] i 0 x _ HI.out (by omega) rfl)
  have e1 : wd.cell? ⟨q, 1 + i * 3 + 1, none⟩ = some (.int .i64 x.h) := ((HQ.out.below HBD.out).cell _).trans (pgL_at XE.cells 3 XE.three es rest [nx, pv] i 1 x _ HI.out (by omega) rfl)
  have e2 : wd.cell? ⟨q, 1 + i * 3 + 2, none⟩ = some (.int .i64 x.n) := ((HQ.out.below HBD.out).cell _).trans (pgL_at XE.cells 3 XE.three es rest [nx, pv] i 2 x _ HI.out (by omega) rfl)
  have lb : b < wd.heap.size := lt_of_heap (heap_below HE.out HBD.out)
  have lq : q < wd.heap.size := (HQ.out.below HBD.out).lt
  have lt : t < wd.heap.size := lt_of_heap (heap_below HT.out HBD.out)
  have ck0 := cell_of_heap hkd 0
  have ck1 := cell_of_heap hkd 1
  have fk0 := free_of_heap hkd 0
  have fk1 := free_of_heap hkd 1
  have cn0 := cell_of_heap hnd 0
  have cn1 := cell_of_heap hnd 1
  have cn2 := cell_of_heap hnd 2
  have HKD := Lib.hid hkd
  clear hwd hK hN hkd hnd
  go_wp2_with fail
  go_region
  go_wp2_with fail
  obtain ⟨w6, hw6⟩ : ∃ w6, w6 = (((((wd.setCell ⟨K, 0, none⟩ (.slice x.A x.m x.p)).setCell ⟨K, 1, none⟩ (.int .i64 x.h)).setCell ⟨b, 3, none⟩ (.slice x.A x.m x.p)).setCell ⟨b, 4, none⟩ (.int .i64 x.h)).setCell ⟨b, 1, none⟩ (.bool false)).drew := ⟨_, rfl⟩
  rw [← hw6]
  have hKb : ¬ K = b := by omega
  have hbK' : ¬ b = K := by omega
  have hc6 : Chg (fun k => k = b) w w6 := by
    have hk := HKK.out
    rw [hw6]
    exact (Chg.setCell (Chg.setCell (Chg.setCell (Chg.setCell (Chg.setCell (Chg.of_below (S := fun k => k = b) HBD.out) (p := ⟨K, 0, none⟩) (.inr (by show w.heap.size ≤ K; omega)) _) (p := ⟨K, 1, none⟩) (.inr (by show w.heap.size ≤ K; omega)) _) (p := ⟨b, 3, none⟩) (.inl rfl) _) (p := ⟨b, 4, none⟩) (.inl rfl) _) (p := ⟨b, 1, none⟩) (.inl rfl) _).drew
  have he6 : EnumAt w6 b .nilIface false i (.slice x.A x.m x.p) x.h (ptr q) t ver uni := by
    unfold EnumAt
    rw [hw6, heap_drew, heap_setCell_at, heap_setCell_at, heap_setCell_at, heap_setCell_ne _ b K _ _ hbK', heap_setCell_ne _ b K _ _ hbK', show wd.heap[b]? = _ from heap_below HE.out HBD.out]
    rfl
  have hk6 : w6.heap[K]? = some (.cells #[.slice x.A x.m x.p, .int .i64 x.h] 180 (0, 0)) := by
    rw [hw6, heap_drew, heap_setCell_ne _ K b _ _ hKb, heap_setCell_ne _ K b _ _ hKb, heap_setCell_ne _ K b _ _ hKb, heap_setCell_at, heap_setCell_at, HKD.out]
    rfl
  refine (HN.out w6 hc6 he6).mono ?_
  rintro y w7 ⟨rfl, he7, hc7⟩
  have hk7 := heap_chg hk6 hc7 hKb
  have k0 := cell_of_heap hk7 0
  have k1 := cell_of_heap hk7 1
  clear hw6 hk6 hk7
  go_wp2
  exact bodyPost_ret (v := .tuple #[.agg #[.slice x.A x.m x.p, .int .i64 x.h], .int .i64 x.n, .nilIface]) (by simp [results, Tryd.results161, go_sem, k0, k1]) rfl ⟨rfl, he7, hc6.trans hc7⟩

set_option maxRecDepth 100000 in
set_option maxHeartbeats 1000000 in
theorem Prev_at (b q i : Nat) (hit : Bool) (kv : Value) (kh : Int) (t : Nat) (ver : Int) (uni : Bool) (es : List XE) (rest : List Value) (nx pv : Value) (x : XE) (c : Int) (fi la r : Value) (w : World)
    (he : EnumAt w b .nilIface hit i kv kh (ptr q) t ver uni) (hq : PageAt w q es rest nx pv) (hi : es[i]? = some x) (ht : TreeW w t c fi la r ver) (kv1 : ∃ A m p, kv = .slice A m p) (R : Value) (i' : Nat) (q' : Value)
    (HN : Hid (∀ w1, Chg (fun k => k = b) w w1 → EnumAt w1 b .nilIface false i (.slice x.A x.m x.p) x.h (ptr q) t ver uni → Calls Tryd.prog 164 #[.pointer (some ⟨b, 0, none⟩)] w1
      fun y w' => y = .returned R ∧ EnumAt w' b R false i' (.slice x.A x.m x.p) x.h q' t ver uni ∧ Chg (fun k => k = b) w1 w')) :
    Calls Tryd.prog 162 #[.pointer (some ⟨b, 0, none⟩)] w
      fun y w' => y = .returned (.tuple #[.agg #[.slice x.A x.m x.p, .int .i64 x.h], .int .i64 x.n, .nilIface]) ∧ EnumAt w' b R false i' (.slice x.A x.m x.p) x.h q' t ver uni ∧ Chg (fun k => k = b) w w' := by
  have hle := hq.le
  have hin : i < es.length := (List.getElem?_eq_some_iff.1 hi).1
  obtain ⟨A, m, p, rfl⟩ := kv1
  have HE := Lib.hid he
  have HQ := Lib.hid hq
  have HT := Lib.hid ht
  have HI := Lib.hid hi
  have hg : ((es.length : Int) ≤ i) = False := by simp; omega
  have hi1 : (i : Int) < 129 := by omega
  have hi2 : (0 : Int) ≤ i := by omega
  have hvv : (ver != ver) = false := by simp
  have hcc : (w.alloc (.cells #[.slice none 0 0, .int .i64 0] 180)).heap[w.heap.size]? = some (.cells #[.slice none 0 0, .int .i64 0] 180 (0, 0)) := heap_new w _
  have HKA := Lib.hid hcc
  clear he hq ht hi hcc
  have c0 : w.cell? ⟨b, 0, none⟩ = some .nilIface := cell_of_heap (heap_below HE.out (Below.refl _ _)) 0
  have c1 : w.cell? ⟨b, 1, none⟩ = some (.bool hit) := cell_of_heap (heap_below HE.out (Below.refl _ _)) 1
  have c2 : w.cell? ⟨b, 2, none⟩ = some (.int .i64 i) := cell_of_heap (heap_below HE.out (Below.refl _ _)) 2
  have c3 : w.cell? ⟨b, 3, none⟩ = some (.slice A m p) := cell_of_heap (heap_below HE.out (Below.refl _ _)) 3
  have c4 : w.cell? ⟨b, 4, none⟩ = some (.int .i64 kh) := cell_of_heap (heap_below HE.out (Below.refl _ _)) 4
  have c5 : w.cell? ⟨b, 5, none⟩ = some (.pointer (some ⟨q, 0, none⟩)) := cell_of_heap (heap_below HE.out (Below.refl _ _)) 5
  have c6 : w.cell? ⟨b, 6, none⟩ = some (.pointer (some ⟨t, 0, none⟩)) := cell_of_heap (heap_below HE.out (Below.refl _ _)) 6
  have c7 : w.cell? ⟨b, 7, none⟩ = some (.int .i64 ver) := cell_of_heap (heap_below HE.out (Below.refl _ _)) 7
  have f1 : w.frozen? ⟨b, 1, none⟩ = false := free_of_heap (heap_below HE.out (Below.refl _ _)) 1
  have f3 : w.frozen? ⟨b, 3, none⟩ = false := free_of_heap (heap_below HE.out (Below.refl _ _)) 3
  have f4 : w.frozen? ⟨b, 4, none⟩ = false := free_of_heap (heap_below HE.out (Below.refl _ _)) 4
  have cq : w.cell? ⟨q, 0, none⟩ = some (.int .i64 es.length) := by rw [(HQ.out.below (Below.refl _ _)).cell]; rfl
  have ct : w.cell? ⟨t, 4, none⟩ = some (.int .i64 ver) := cell_of_heap (heap_below HT.out (Below.refl _ _)) 4
  have e0 : w.cell? ⟨q, 1 + i * 3, none⟩ = some (.slice x.A x.m x.p) := ((HQ.out.below (Below.refl _ _)).cell _).trans (pgL_at XE.cells 3 XE.three es rest [nx, pv] i 0 x _ HI.out (by omega) rfl)
  have e1 : w.cell? ⟨q, 1 + i * 3 + 1, none⟩ = some (.int .i64 x.h) := ((HQ.out.below (Below.refl _ _)).cell _).trans (pgL_at XE.cells 3 XE.three es rest [nx, pv] i 1 x _ HI.out (by omega) rfl)
  have e2 : w.cell? ⟨q, 1 + i * 3 + 2, none⟩ = some (.int .i64 x.n) := ((HQ.out.below (Below.refl _ _)).cell _).trans (pgL_at XE.cells 3 XE.three es rest [nx, pv] i 2 x _ HI.out (by omega) rfl)
  have lb : b < w.heap.size := lt_of_heap (heap_below HE.out (Below.refl _ _))
  have lq : q < w.heap.size := (HQ.out.below (Below.refl _ _)).lt
  have lt : t < w.heap.size := lt_of_heap (heap_below HT.out (Below.refl _ _))
  go_enter Tryd.func162, Tryd.ntmps162
  go_wp2_with fail
  obtain ⟨wa, hwa⟩ : ∃ wa, wa = w.alloc (.cells #[.slice none 0 0, .int .i64 0] 180) := ⟨_, rfl⟩
  rw [← hwa]
  have HBA := Lib.hid (show Below w.heap.size w wa by rw [hwa]; exact (Below.refl _ _).alloc (Nat.le_refl _) _)
  rw [← hwa] at HKA
  clear c0 c1 c2 c3 c4 c5 c6 c7 f1 f3 f4 cq ct e0 e1 e2 lb lq lt
  have c0 : wa.cell? ⟨b, 0, none⟩ = some .nilIface := cell_of_heap (heap_below HE.out HBA.out) 0
  have c1 : wa.cell? ⟨b, 1, none⟩ = some (.bool hit) := cell_of_heap (heap_below HE.out HBA.out) 1
  have c2 : wa.cell? ⟨b, 2, none⟩ = some (.int .i64 i) := cell_of_heap (heap_below HE.out HBA.out) 2
  have c3 : wa.cell? ⟨b, 3, none⟩ = some (.slice A m p) := cell_of_heap (heap_below HE.out HBA.out) 3
  have c4 : wa.cell? ⟨b, 4, none⟩ = some (.int .i64 kh) := cell_of_heap (heap_below HE.out HBA.out) 4
  have c5 : wa.cell? ⟨b, 5, none⟩ = some (.pointer (some ⟨q, 0, none⟩)) := cell_of_heap (heap_below HE.out HBA.out) 5
  have c6 : wa.cell? ⟨b, 6, none⟩ = some (.pointer (some ⟨t, 0, none⟩)) := cell_of_heap (heap_below HE.out HBA.out) 6
  have c7 : wa.cell? ⟨b, 7, none⟩ = some (.int .i64 ver) := cell_of_heap (heap_below HE.out HBA.out) 7
  have f1 : wa.frozen? ⟨b, 1, none⟩ = false := free_of_heap (heap_below HE.out HBA.out) 1
  have f3 : wa.frozen? ⟨b, 3, none⟩ = false := free_of_heap (heap_below HE.out HBA.out) 3
  have f4 : wa.frozen? ⟨b, 4, none⟩ = false := free_of_heap (heap_below HE.out HBA.out) 4
  have cq : wa.cell? ⟨q, 0, none⟩ = some (.int .i64 es.length) := by rw [(HQ.out.below HBA.out).cell]; rfl
  have ct : wa.cell? ⟨t, 4, none⟩ = some (.int .i64 ver) := cell_of_heap (heap_below HT.out HBA.out) 4
  have e0 : wa.cell? ⟨q, 1 + i * 3, none⟩ = some (.slice x.A x.m x.p) := ((HQ.out.below HBA.out).cell _).trans (pgL_at XE.cells 3 XE.three es rest [nx, pv] i 0 x _ HI.out (by omega) rfl)
  have e1 : wa.cell? ⟨q, 1 + i * 3 + 1, none⟩ = some (.int .i64 x.h) := ((HQ.out.below HBA.out).cell _).trans (pgL_at XE.cells 3 XE.three es rest [nx, pv] i 1 x _ HI.out (by omega) rfl)
  have e2 : wa.cell? ⟨q, 1 + i * 3 + 2, none⟩ = some (.int .i64 x.n) := ((HQ.out.below HBA.out).cell _).trans (pgL_at XE.cells 3 XE.three es rest [nx, pv] i 2 x _ HI.out (by omega) rfl)
  have lb : b < wa.heap.size := lt_of_heap (heap_below HE.out HBA.out)
  have lq : q < wa.heap.size := (HQ.out.below HBA.out).lt
  have lt : t < wa.heap.size := lt_of_heap (heap_below HT.out HBA.out)
  clear hwa
  go_still_tail 11, (by kernel_rfl)
  obtain ⟨wb, hwb⟩ : ∃ wb, wb = wa.drew := ⟨_, rfl⟩
  change wpList _ _ _ _ _ wa.drew
  rw [← hwb]
  have HBB := Lib.hid (show Below w.heap.size w wb by rw [hwb]; exact HBA.out.drew)
  have HKB := Lib.hid (show wb.heap[w.heap.size]? = some (.cells #[.slice none 0 0, .int .i64 0] 180 (0, 0)) by rw [hwb]; exact HKA.out)
  clear c0 c1 c2 c3 c4 c5 c6 c7 f1 f3 f4 cq ct e0 e1 e2 lb lq lt
  have c0 : wb.cell? ⟨b, 0, none⟩ = some .nilIface := cell_of_heap (heap_below HE.out HBB.out) 0
  have c1 : wb.cell? ⟨b, 1, none⟩ = some (.bool hit) := cell_of_heap (heap_below HE.out HBB.out) 1
  have c2 : wb.cell? ⟨b, 2, none⟩ = some (.int .i64 i) := cell_of_heap (heap_below HE.out HBB.out) 2
  have c3 : wb.cell? ⟨b, 3, none⟩ = some (.slice A m p) := cell_of_heap (heap_below HE.out HBB.out) 3
  have c4 : wb.cell? ⟨b, 4, none⟩ = some (.int .i64 kh) := cell_of_heap (heap_below HE.out HBB.out) 4
  have c5 : wb.cell? ⟨b, 5, none⟩ = some (.pointer (some ⟨q, 0, none⟩)) := cell_of_heap (heap_below HE.out HBB.out) 5
  have c6 : wb.cell? ⟨b, 6, none⟩ = some (.pointer (some ⟨t, 0, none⟩)) := cell_of_heap (heap_below HE.out HBB.out) 6
  have c7 : wb.cell? ⟨b, 7, none⟩ = some (.int .i64 ver) := cell_of_heap (heap_below HE.out HBB.out) 7
  have f1 : wb.frozen? ⟨b, 1, none⟩ = false := free_of_heap (heap_below HE.out HBB.out) 1
  have f3 : wb.frozen? ⟨b, 3, none⟩ = false := free_of_heap (heap_below HE.out HBB.out) 3
  have f4 : wb.frozen? ⟨b, 4, none⟩ = false := free_of_heap (heap_below HE.out HBB.out) 4
  have cq : wb.cell? ⟨q, 0, none⟩ = some (.int .i64 es.length) := by rw [(HQ.out.below HBB.out).cell]; rfl
  have ct : wb.cell? ⟨t, 4, none⟩ = some (.int .i64 ver) := cell_of_heap (heap_below HT.out HBB.out) 4
  have e0 : wb.cell? ⟨q, 1 + i * 3, none⟩ = some (.slice x.A x.m x.p) := ((HQ.out.below HBB.out).cell _).trans (pgL_at XE.cells 3 XE.three es rest [nx, pv] i 0 x _ HI.out (by omega) rfl)
  have e1 : wb.cell? ⟨q, 1 + i * 3 + 1, none⟩ = some (.int .i64 x.h) := ((HQ.out.below HBB.out).cell _).trans (pgL_at XE.cells 3 XE.three es rest [nx, pv] i 1 x _ HI.out (by omega) rfl)
  have e2 : wb.cell? ⟨q, 1 + i * 3 + 2, none⟩ = some (.int .i64 x.n) := ((HQ.out.below HBB.out).cell _).trans (pgL_at XE.cells 3 XE.three es rest [nx, pv] i 2 x _ HI.out (by omega) rfl)
  have lb : b < wb.heap.size := lt_of_heap (heap_below HE.out HBB.out)
  have lq : q < wb.heap.size := (HQ.out.below HBB.out).lt
  have lt : t < wb.heap.size := lt_of_heap (heap_below HT.out HBB.out)
  clear hwb
  go_wp2_with fail
  go_still_tail 11, (by kernel_rfl)
  obtain ⟨wc, hwc⟩ : ∃ wc, wc = wb.drew := ⟨_, rfl⟩
  change wpList _ _ _ _ _ wb.drew
  rw [← hwc]
  have HBC := Lib.hid (show Below w.heap.size w wc by rw [hwc]; exact HBB.out.drew)
  have HKC := Lib.hid (show wc.heap[w.heap.size]? = some (.cells #[.slice none 0 0, .int .i64 0] 180 (0, 0)) by rw [hwc]; exact HKB.out)
  clear c0 c1 c2 c3 c4 c5 c6 c7 f1 f3 f4 cq ct e0 e1 e2 lb lq lt
  have c0 : wc.cell? ⟨b, 0, none⟩ = some .nilIface := cell_of_heap (heap_below HE.out HBC.out) 0
  have c1 : wc.cell? ⟨b, 1, none⟩ = some (.bool hit) := cell_of_heap (heap_below HE.out HBC.out) 1
  have c2 : wc.cell? ⟨b, 2, none⟩ = some (.int .i64 i) := cell_of_heap (heap_below HE.out HBC.out) 2
  have c3 : wc.cell? ⟨b, 3, none⟩ = some (.slice A m p) := cell_of_heap (heap_below HE.out HBC.out) 3
  have c4 : wc.cell? ⟨b, 4, none⟩ = some (.int .i64 kh) := cell_of_heap (heap_below HE.out HBC.out) 4
  have c5 : wc.cell? ⟨b, 5, none⟩ = some (.pointer (some ⟨q, 0, none⟩)) := cell_of_heap (heap_below HE.out HBC.out) 5
  have c6 : wc.cell? ⟨b, 6, none⟩ = some (.pointer (some ⟨t, 0, none⟩)) := cell_of_heap (heap_below HE.out HBC.out) 6
  have c7 : wc.cell? ⟨b, 7, none⟩ = some (.int .i64 ver) := cell_of_heap (heap_below HE.out HBC.out) 7
  have f1 : wc.frozen? ⟨b, 1, none⟩ = false := free_of_heap (heap_below HE.out HBC.out) 1
  have f3 : wc.frozen? ⟨b, 3, none⟩ = false := free_of_heap (heap_below HE.out HBC.out) 3
  have f4 : wc.frozen? ⟨b, 4, none⟩ = false := free_of_heap (heap_below HE.out HBC.out) 4
  have cq : wc.cell? ⟨q, 0, none⟩ = some (.int .i64 es.length) := by rw [(HQ.out.below HBC.out).cell]; rfl
  have ct : wc.cell? ⟨t, 4, none⟩ = some (.int .i64 ver) := cell_of_heap (heap_below HT.out HBC.out) 4
  have e0 : wc.cell? ⟨q, 1 + i * 3, none⟩ = some (.slice x.A x.m x.p) := ((HQ.out.below HBC.out).cell _).trans (pgL_at XE.cells 3 XE.three es rest [nx, pv] i 0 x _ HI.out (by omega) rfl)
  have e1 : wc.cell? ⟨q, 1 + i * 3 + 1, none⟩ = some (.int .i64 x.h) := ((HQ.out.below HBC.out).cell _).trans (pgL_at XE.cells 3 XE.three es rest [nx, pv] i 1 x _ HI.out (by omega) rfl)
  have e2 : wc.cell? ⟨q, 1 + i * 3 + 2, none⟩ = some (.int .i64 x.n) := ((HQ.out.below HBC.out).cell _).trans (pgL_at XE.cells 3 XE.three es rest [nx, pv] i 2 x _ HI.out (by omega) rfl)
  have lb : b < wc.heap.size := lt_of_heap (heap_below HE.out HBC.out)
  have lq : q < wc.heap.size := (HQ.out.below HBC.out).lt
  have lt : t < wc.heap.size := lt_of_heap (heap_below HT.out HBC.out)
  clear hwc
  go_wp2_with fail
  go_region
  obtain ⟨K, hK⟩ : ∃ K, K = w.heap.size := ⟨_, rfl⟩
  obtain ⟨N, hN⟩ : ∃ N, N = wc.heap.size := ⟨_, rfl⟩
  obtain ⟨wd, hwd⟩ : ∃ wd, wd = (wc.alloc (.cells #[.slice x.A x.m x.p, .int .i64 x.h, .int .i64 x.n] 231)).drew := ⟨_, rfl⟩
  rw [← hwd, ← hK, ← hN]
  have HBD := Lib.hid (show Below w.heap.size w wd by rw [hwd]; exact (HBC.out.alloc HBC.out.size _).drew)
  have hkd : wd.heap[K]? = some (.cells #[.slice none 0 0, .int .i64 0] 180 (0, 0)) := by rw [hwd, hK]; exact heap_old HKC.out _
  have hnd : wd.heap[N]? = some (.cells #[.slice x.A x.m x.p, .int .i64 x.h, .int .i64 x.n] 231 (0, 0)) := by rw [hwd, hN]; exact heap_new wc _
  have hKN : K < N := by rw [hK, hN]; exact lt_of_heap HKC.out
  have hbK : b < K := by rw [hK]; exact lt_of_heap HE.out
  have HKK := Lib.hid hK
  clear c0 c1 c2 c3 c4 c5 c6 c7 f1 f3 f4 cq ct e0 e1 e2 lb lq lt
  have c0 : wd.cell? ⟨b, 0, none⟩ = some .nilIface := cell_of_heap (heap_below HE.out HBD.out) 0
  have c1 : wd.cell? ⟨b, 1, none⟩ = some (.bool hit) := cell_of_heap (heap_below HE.out HBD.out) 1
  have c2 : wd.cell? ⟨b, 2, none⟩ = some (.int .i64 i) := cell_of_heap (heap_below HE.out HBD.out) 2
  have c3 : wd.cell? ⟨b, 3, none⟩ = some (.slice A m p) := cell_of_heap (heap_below HE.out HBD.out) 3
  have c4 : wd.cell? ⟨b, 4, none⟩ = some (.int .i64 kh) := cell_of_heap (heap_below HE.out HBD.out) 4
  have c5 : wd.cell? ⟨b, 5, none⟩ = some (.pointer (some ⟨q, 0, none⟩)) := cell_of_heap (heap_below HE.out HBD.out) 5
  have c6 : wd.cell? ⟨b, 6, none⟩ = some (.pointer (some ⟨t, 0, none⟩)) := cell_of_heap (heap_below HE.out HBD.out) 6
  have c7 : wd.cell? ⟨b, 7, none⟩ = some (.int .i64 ver) := cell_of_heap (heap_below HE.out HBD.out) 7
  have f1 : wd.frozen? ⟨b, 1, none⟩ = false := free_of_heap (heap_below HE.out HBD.out) 1
  have f3 : wd.frozen? ⟨b, 3, none⟩ = false := free_of_heap (heap_below HE.out HBD.out) 3
  have f4 : wd.frozen? ⟨b, 4, none⟩ = false := free_of_heap (heap_below HE.out HBD.out) 4
  have cq : wd.cell? ⟨q, 0, none⟩ = some (.int .i64 es.length) := by rw [(HQ.out.below HBD.out).cell]; rfl
  have ct : wd.cell? ⟨t, 4, none⟩ = some (.int .i64 ver) := cell_of_heap (heap_below HT.out HBD.out) 4
  have e0 : wd.cell? ⟨q, 1 + i * 3, none⟩ = some (.slice x.A x.m x.p) := ((HQ.out.below HBD.out).cell _).trans (pgL_at XE.cells 3 XE.three es rest [nx, pv] i 0 x _ HI.out (by omega) rfl)
  have e1 : wd.cell? ⟨q, 1 + i * 3 + 1, none⟩ = some (.int .i64 x.h) := ((HQ.out.below HBD.out).cell _).trans (pgL_at XE.cells 3 XE.three es rest [nx, pv] i 1 x _ HI.out (by omega) rfl)
  have e2 : wd.cell? ⟨q, 1 + i * 3 + 2, none⟩ = some (.int .i64 x.n) := ((HQ.out.below HBD.out).cell _).trans (pgL_at XE.cells 3 XE.three es rest [nx, pv] i 2 x _ HI.out (by omega) rfl)
  have lb : b < wd.heap.size := lt_of_heap (heap_below HE.out HBD.out)
  have lq : q < wd.heap.size := (HQ.out.below HBD.out).lt
  have lt : t < wd.heap.size := lt_of_heap (heap_below HT.out HBD.out)
  have ck0 := cell_of_heap hkd 0
  have ck1 := cell_of_heap hkd 1
  have fk0 := free_of_heap hkd 0
  have fk1 := free_of_heap hkd 1
  have cn0 := cell_of_heap hnd 0
  have cn1 := cell_of_heap hnd 1
  have cn2 := cell_of_heap hnd 2
  have HKD := Lib.hid hkd
  clear hwd hK hN hkd hnd
  go_wp2_with fail
  go_region
  go_wp2_with fail
  obtain ⟨w6, hw6⟩ : ∃ w6, w6 = (((((wd.setCell ⟨K, 0, none⟩ (.slice x.A x.m x.p)).setCell ⟨K, 1, none⟩ (.int .i64 x.h)).setCell ⟨b, 3, none⟩ (.slice x.A x.m x.p)).setCell ⟨b, 4, none⟩ (.int .i64 x.h)).setCell ⟨b, 1, none⟩ (.bool false)).drew := ⟨_, rfl⟩
  rw [← hw6]
  have hKb : ¬ K = b := by omega
  have hbK' : ¬ b = K := by omega
  have hc6 : Chg (fun k => k = b) w w6 := by
    have hk := HKK.out
    rw [hw6]
    exact (Chg.setCell (Chg.setCell (Chg.setCell (Chg.setCell (Chg.setCell (Chg.of_below (S := fun k => k = b) HBD.out) (p := ⟨K, 0, none⟩) (.inr (by show w.heap.size ≤ K; omega)) _) (p := ⟨K, 1, none⟩) (.inr (by show w.heap.size ≤ K; omega)) _) (p := ⟨b, 3, none⟩) (.inl rfl) _) (p := ⟨b, 4, none⟩) (.inl rfl) _) (p := ⟨b, 1, none⟩) (.inl rfl) _).drew
  have he6 : EnumAt w6 b .nilIface false i (.slice x.A x.m x.p) x.h (ptr q) t ver uni := by
    unfold EnumAt
    rw [hw6, heap_drew, heap_setCell_at, heap_setCell_at, heap_setCell_at, heap_setCell_ne _ b K _ _ hbK', heap_setCell_ne _ b K _ _ hbK', show wd.heap[b]? = _ from heap_below HE.out HBD.out]
    rfl
  have hk6 : w6.heap[K]? = some (.cells #[.slice x.A x.m x.p, .int .i64 x.h] 180 (0, 0)) := by
    rw [hw6, heap_drew, heap_setCell_ne _ K b _ _ hKb, heap_setCell_ne _ K b _ _ hKb, heap_setCell_ne _ K b _ _ hKb, heap_setCell_at, heap_setCell_at, HKD.out]
    rfl
  refine (HN.out w6 hc6 he6).mono ?_
  rintro y w7 ⟨rfl, he7, hc7⟩
  have hk7 := heap_chg hk6 hc7 hKb
  have k0 := cell_of_heap hk7 0
  have k1 := cell_of_heap hk7 1
  clear hw6 hk6 hk7
  go_wp2
  exact bodyPost_ret (v := .tuple #[.agg #[.slice x.A x.m x.p, .int .i64 x.h], .int .i64 x.n, .nilIface]) (by simp [results, Tryd.results162, go_sem, k0, k1]) rfl ⟨rfl, he7, hc6.trans hc7⟩

end Go.Proofs.YtffgkocokkhahaaDoor
