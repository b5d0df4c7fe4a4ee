/-
  Walking the tree: (*xenumerator).next, prev.
-/
import Derived.Test.YtffgkocokkhahaaGreatDoorXt
namespace Go.Proofs.YtffgkocokkhahaaGreatDoor
open Go.RowKit

/-- What goes through the tree. -/
def EnumAt (w : World) (b : Nat) (err : Value) (hit : Bool) (i : Int) (kv : Value) (kh : Int) (q : Value) (t : Nat) (ver : Int) (uni : Bool) : Prop :=
  w.heap[b]? = some (.cells #[err, .bool hit, .int .i64 i, kv, .int .i64 kh, q, ptr t, .int .i64 ver, .bool uni] 153 (0, 0))

/-- The end's own error. -/
structure HasEof (w : World) (E : Value) : Prop where
  lt : 4 < w.heap.size
  cell : w.cell? ⟨4, 0, none⟩ = some E
  form : ∃ a, E = .iface 194 (.pointer (some a))
theorem HasEof.below {w w' : World} {E : Value} (h : HasEof w E) (hb : Below w.heap.size w w') : HasEof w' E :=
  ⟨Nat.lt_of_lt_of_le h.lt hb.size, by rw [hb.cell (p := ⟨4, 0, none⟩) h.lt]; exact h.cell, h.form⟩
theorem HasEof.chg {S : Nat → Prop} {w w' : World} {E : Value} (h : HasEof w E) (hc : Chg S w w') (hn : ¬ S 4) : HasEof w' E :=
  ⟨Nat.lt_of_lt_of_le h.lt hc.size, by rw [World.cell?_of_block (w := w) (hc.block _ h.lt hn)]; exact h.cell, h.form⟩

set_option maxRecDepth 100000 in
set_option maxHeartbeats 1000000 in
/-- On within a page. -/
theorem next_in (b q i : Nat) (hit : Bool) (kv : Value) (kh : Int) (t : Nat) (ver : Int) (uni : Bool) (es : List XE) (rest : List Value) (nx pv : Value) (w : World)
    (he : EnumAt w b .nilIface hit i kv kh (ptr q) t ver uni) (hq : PageAt w q es rest nx pv) (hi : i + 1 < es.length) :
    Calls Tryz.prog 149 #[.pointer (some ⟨b, 0, none⟩)] w fun y w' => y = .returned .nilIface ∧ EnumAt w' b .nilIface hit ((i + 1 : Nat) : Int) kv kh (ptr q) t ver uni ∧ Chg (fun k => k = b) w w' := by
  have hle := hq.le
  have c0 : w.cell? ⟨b, 0, none⟩ = some .nilIface := cell_of_heap he 0
  have c2 : w.cell? ⟨b, 2, none⟩ = some (.int .i64 i) := cell_of_heap he 2
  have c5 : w.cell? ⟨b, 5, none⟩ = some (.pointer (some ⟨q, 0, none⟩)) := cell_of_heap he 5
  have f2 : w.frozen? ⟨b, 2, none⟩ = false := free_of_heap he 2
  have cq : w.cell? ⟨q, 0, none⟩ = some (.int .i64 es.length) := by rw [hq.cell]; rfl
  have hlt : (i : Int) < ↑es.length - 1 := by omega
  have hw : IntKind.i64.wrap (↑es.length - 1) = (es.length : Int) - 1 := IntWalk.i64_in _ (by omega)
  have HE := Lib.hid he
  clear he hq
  go_enter Tryz.func149, Tryz.ntmps149
  go_wp2
  go_still_tail 13, (by kernel_rfl)
  change wpList _ _ _ _ _ w.drew
  go_wp2
  go_ret
  refine ⟨rfl, ?_, (Chg.setCell (Chg.refl (fun k => k = b) w) (p := ⟨b, 2, none⟩) (.inl rfl) _).drew⟩
  unfold EnumAt
  simp only [heap_drew, heap_setCell_at, show w.heap[b]? = _ from HE.out, Option.map_some, updObj_cells]
  rfl

set_option maxRecDepth 100000 in
set_option maxHeartbeats 1000000 in
/-- On to the next page. -/
theorem next_page (b q i q2 : Nat) (hit : Bool) (kv : Value) (kh : Int) (t : Nat) (ver : Int) (uni : Bool) (es : List XE) (rest : List Value) (pv : Value) (w : World)
    (he : EnumAt w b .nilIface hit i kv kh (ptr q) t ver uni) (hq : PageAt w q es rest (ptr q2) pv) (hi : i + 1 = es.length) :
    Calls Tryz.prog 149 #[.pointer (some ⟨b, 0, none⟩)] w fun y w' => y = .returned .nilIface ∧ EnumAt w' b .nilIface hit ((0 : Nat) : Int) kv kh (ptr q2) t ver uni ∧ Chg (fun k => k = b) w w' := by
  have hle := hq.le
  have hroom := hq.room
  have c0 : w.cell? ⟨b, 0, none⟩ = some .nilIface := cell_of_heap he 0
  have c2 : w.cell? ⟨b, 2, none⟩ = some (.int .i64 i) := cell_of_heap he 2
  have c5 : w.cell? ⟨b, 5, none⟩ = some (.pointer (some ⟨q, 0, none⟩)) := cell_of_heap he 5
  have f2 : w.frozen? ⟨b, 2, none⟩ = false := free_of_heap he 2
  have f5 : w.frozen? ⟨b, 5, none⟩ = false := free_of_heap he 5
  have cq : w.cell? ⟨q, 0, none⟩ = some (.int .i64 es.length) := by rw [hq.cell]; rfl
  have cn : w.cell? ⟨q, 388, none⟩ = some (.pointer (some ⟨q2, 0, none⟩)) := by rw [hq.cell, pgL_tail XE.cells 3 XE.three es rest _ 388 0 (by omega)]; rfl
  have hlt : ((i : Int) < ↑es.length - 1) = False := by simp; omega
  have hw : IntKind.i64.wrap (↑es.length - 1) = (es.length : Int) - 1 := IntWalk.i64_in _ (by omega)
  have hbq : ¬ b = q := tag_ne he hq.heap (by decide)
  have hqb : ¬ q = b := fun h => hbq h.symm
  have HE := Lib.hid he
  clear he hq
  go_enter Tryz.func149, Tryz.ntmps149
  go_wp2
  go_still_tail 13, (by kernel_rfl)
  change wpList _ _ _ _ _ w.drew
  go_wp2
  go_ret
  refine ⟨rfl, ?_, (Chg.setCell (Chg.setCell (Chg.refl (fun k => k = b) w).drew (p := ⟨b, 5, none⟩) (.inl rfl) _) (p := ⟨b, 2, none⟩) (.inl rfl) _)⟩
  unfold EnumAt
  simp only [heap_drew, heap_setCell_at, show w.heap[b]? = _ from HE.out, Option.map_some, updObj_cells]
  rfl

set_option maxRecDepth 100000 in
set_option maxHeartbeats 1000000 in
/-- Behind the last page. -/
theorem next_end (b q i : Nat) (hit : Bool) (kv : Value) (kh : Int) (t : Nat) (ver : Int) (uni : Bool) (es : List XE) (rest : List Value) (pv : Value) (E : Value) (w : World)
    (he : EnumAt w b .nilIface hit i kv kh (ptr q) t ver uni) (hq : PageAt w q es rest (.pointer none) pv) (hi : i + 1 = es.length) (hE : HasEof w E) (hbg : ¬ 4 = b) :
    Calls Tryz.prog 149 #[.pointer (some ⟨b, 0, none⟩)] w fun y w' => y = .returned E ∧ EnumAt w' b E hit ((0 : Nat) : Int) kv kh (.pointer none) t ver uni ∧ Chg (fun k => k = b) w w' := by
  have hle := hq.le
  have hroom := hq.room
  have c0 : w.cell? ⟨b, 0, none⟩ = some .nilIface := cell_of_heap he 0
  have c2 : w.cell? ⟨b, 2, none⟩ = some (.int .i64 i) := cell_of_heap he 2
  have c5 : w.cell? ⟨b, 5, none⟩ = some (.pointer (some ⟨q, 0, none⟩)) := cell_of_heap he 5
  have f0 : w.frozen? ⟨b, 0, none⟩ = false := free_of_heap he 0
  have f2 : w.frozen? ⟨b, 2, none⟩ = false := free_of_heap he 2
  have f5 : w.frozen? ⟨b, 5, none⟩ = false := free_of_heap he 5
  have cq : w.cell? ⟨q, 0, none⟩ = some (.int .i64 es.length) := by rw [hq.cell]; rfl
  have cn : w.cell? ⟨q, 388, none⟩ = some (.pointer none) := by rw [hq.cell, pgL_tail XE.cells 3 XE.three es rest _ 388 0 (by omega)]; rfl
  have hlt : ((i : Int) < ↑es.length - 1) = False := by simp; omega
  have hw : IntKind.i64.wrap (↑es.length - 1) = (es.length : Int) - 1 := IntWalk.i64_in _ (by omega)
  have hbq : ¬ b = q := tag_ne he hq.heap (by decide)
  have hqb : ¬ q = b := fun h => hbq h.symm
  have hbg' : ¬ b = 4 := fun h => hbg h.symm
  have HE := Lib.hid he
  obtain ⟨gl, gc, a, rfl⟩ := hE
  clear he hq
  go_enter Tryz.func149, Tryz.ntmps149
  go_wp2
  go_still_tail 13, (by kernel_rfl)
  change wpList _ _ _ _ _ w.drew
  go_wp2
  go_ret
  refine ⟨rfl, ?_, (Chg.setCell (Chg.setCell (Chg.setCell (Chg.refl (fun k => k = b) w).drew (p := ⟨b, 5, none⟩) (.inl rfl) _) (p := ⟨b, 2, none⟩) (.inl rfl) _) (p := ⟨b, 0, none⟩) (.inl rfl) _)⟩
  unfold EnumAt
  simp only [heap_drew, heap_setCell_at, show w.heap[b]? = _ from HE.out, Option.map_some, updObj_cells]
  rfl

set_option maxRecDepth 100000 in
set_option maxHeartbeats 1000000 in
/-- Back within a page. -/
theorem prev_in (b q i j : Nat) (hit : Bool) (kv : Value) (kh : Int) (t : Nat) (ver : Int) (uni : Bool) (w : World)
    (he : EnumAt w b .nilIface hit i kv kh (ptr q) t ver uni) (hi : i = j + 1) (hb : i ≤ 129) :
    Calls Tryz.prog 150 #[.pointer (some ⟨b, 0, none⟩)] w fun y w' => y = .returned .nilIface ∧ EnumAt w' b .nilIface hit (j : Int) kv kh (ptr q) t ver uni ∧ Chg (fun k => k = b) w w' := by
  have c0 : w.cell? ⟨b, 0, none⟩ = some .nilIface := cell_of_heap he 0
  have c2 : w.cell? ⟨b, 2, none⟩ = some (.int .i64 i) := cell_of_heap he 2
  have c5 : w.cell? ⟨b, 5, none⟩ = some (.pointer (some ⟨q, 0, none⟩)) := cell_of_heap he 5
  have f2 : w.frozen? ⟨b, 2, none⟩ = false := free_of_heap he 2
  have hi0 : 0 < i := by omega
  have hj : (i : Int) - 1 = (j : Int) := by omega
  have HE := Lib.hid he
  clear he hi
  go_enter Tryz.func150, Tryz.ntmps150
  go_wp2
  go_ret
  refine ⟨rfl, ?_, Chg.setCell (Chg.refl (fun k => k = b) w) (p := ⟨b, 2, none⟩) (.inl rfl) _⟩
  unfold EnumAt
  simp only [heap_setCell_at, show w.heap[b]? = _ from HE.out, Option.map_some, updObj_cells]
  rfl

set_option maxRecDepth 100000 in
set_option maxHeartbeats 1000000 in
/-- Back to the page ahead. -/
theorem prev_page (b q q2 j : Nat) (hit : Bool) (kv : Value) (kh : Int) (t : Nat) (ver : Int) (uni : Bool) (es es2 : List XE) (rest rest2 : List Value) (nx nx2 pv2 : Value) (w : World)
    (he : EnumAt w b .nilIface hit ((0 : Nat) : Int) kv kh (ptr q) t ver uni) (hq : PageAt w q es rest nx (ptr q2)) (hq2 : PageAt w q2 es2 rest2 nx2 pv2) (hj : es2.length = j + 1) :
    Calls Tryz.prog 150 #[.pointer (some ⟨b, 0, none⟩)] w fun y w' => y = .returned .nilIface ∧ EnumAt w' b .nilIface hit (j : Int) kv kh (ptr q2) t ver uni ∧ Chg (fun k => k = b) w w' := by
  have hle := hq2.le
  have hroom := hq.room
  have c0 : w.cell? ⟨b, 0, none⟩ = some .nilIface := cell_of_heap he 0
  have c2 : w.cell? ⟨b, 2, none⟩ = some (.int .i64 0) := cell_of_heap he 2
  have c5 : w.cell? ⟨b, 5, none⟩ = some (.pointer (some ⟨q, 0, none⟩)) := cell_of_heap he 5
  have f2 : w.frozen? ⟨b, 2, none⟩ = false := free_of_heap he 2
  have f5 : w.frozen? ⟨b, 5, none⟩ = false := free_of_heap he 5
  have cn : w.cell? ⟨q, 389, none⟩ = some (.pointer (some ⟨q2, 0, none⟩)) := by rw [hq.cell, pgL_tail XE.cells 3 XE.three es rest _ 389 1 (by omega)]; rfl
  have cq2 : w.cell? ⟨q2, 0, none⟩ = some (.int .i64 es2.length) := by rw [hq2.cell]; rfl
  have hbq : ¬ b = q := tag_ne he hq.heap (by decide)
  have hqb : ¬ q = b := fun h => hbq h.symm
  have hbq2 : ¬ b = q2 := tag_ne he hq2.heap (by decide)
  have hqb2 : ¬ q2 = b := fun h => hbq2 h.symm
  have hj2 : (es2.length : Int) - 1 = (j : Int) := by omega
  have HE := Lib.hid he
  clear he hq hq2 hj
  go_enter Tryz.func150, Tryz.ntmps150
  go_wp2
  go_ret
  refine ⟨rfl, ?_, Chg.setCell (Chg.setCell (Chg.refl (fun k => k = b) w) (p := ⟨b, 5, none⟩) (.inl rfl) _) (p := ⟨b, 2, none⟩) (.inl rfl) _⟩
  unfold EnumAt
  simp only [heap_setCell_at, show w.heap[b]? = _ from HE.out, Option.map_some, updObj_cells]
  rfl

set_option maxRecDepth 100000 in
set_option maxHeartbeats 1000000 in
/-- Ahead of the first page. -/
theorem prev_end (b q : Nat) (hit : Bool) (kv : Value) (kh : Int) (t : Nat) (ver : Int) (uni : Bool) (es : List XE) (rest : List Value) (nx : Value) (E : Value) (w : World)
    (he : EnumAt w b .nilIface hit ((0 : Nat) : Int) kv kh (ptr q) t ver uni) (hq : PageAt w q es rest nx (.pointer none)) (hE : HasEof w E) (hbg : ¬ 4 = b) :
    Calls Tryz.prog 150 #[.pointer (some ⟨b, 0, none⟩)] w fun y w' => y = .returned E ∧ EnumAt w' b E hit ((0 : Nat) : Int) kv kh (.pointer none) t ver uni ∧ Chg (fun k => k = b) w w' := by
  have hroom := hq.room
  have c0 : w.cell? ⟨b, 0, none⟩ = some .nilIface := cell_of_heap he 0
  have c2 : w.cell? ⟨b, 2, none⟩ = some (.int .i64 0) := cell_of_heap he 2
  have c5 : w.cell? ⟨b, 5, none⟩ = some (.pointer (some ⟨q, 0, none⟩)) := cell_of_heap he 5
  have f0 : w.frozen? ⟨b, 0, none⟩ = false := free_of_heap he 0
  have f5 : w.frozen? ⟨b, 5, none⟩ = false := free_of_heap he 5
  have cn : w.cell? ⟨q, 389, none⟩ = some (.pointer none) := by rw [hq.cell, pgL_tail XE.cells 3 XE.three es rest _ 389 1 (by omega)]; rfl
  have hbq : ¬ b = q := tag_ne he hq.heap (by decide)
  have hqb : ¬ q = b := fun h => hbq h.symm
  have hbg' : ¬ b = 4 := fun h => hbg h.symm
  have HE := Lib.hid he
  obtain ⟨gl, gc, a, rfl⟩ := hE
  clear he hq
  go_enter Tryz.func150, Tryz.ntmps150
  go_wp2
  go_ret
  refine ⟨rfl, ?_, Chg.setCell (Chg.setCell (Chg.refl (fun k => k = b) w) (p := ⟨b, 5, none⟩) (.inl rfl) _) (p := ⟨b, 0, none⟩) (.inl rfl) _⟩
  unfold EnumAt
  simp only [heap_setCell_at, show w.heap[b]? = _ from HE.out, Option.map_some, updObj_cells]
  rfl

end Go.Proofs.YtffgkocokkhahaaGreatDoor
