/-
  The index's tree in memory: a chain of pages, under a root where there are several. || Walking the tree: (*xenumerator).next, prev. || Walking the tree: (*xenumerator).Next, Prev at a place. PRINTED BY wip/tpl/gen_xh.py. || (*xtree).overflow: a full page gives an entry to a neighbour, or is parted. || (*xtree).overflow under a root. PRINTED BY wip/tpl/gen_xr.py.
-/
import Derived.Test.YtffgkocokkhahaaGreatDoorIxo13

/- The index's tree in memory: a chain of pages, under a root where there are several. -/
namespace Go.Proofs.YtffgkocokkhahaaGreatDoor
open Go.RowKit

abbrev Pg := Nat × List XE
def ptr (b : Nat) : Value := .pointer (some ⟨b, 0, none⟩)
def hdp : List Pg → Value → Value
  | [], nx => nx
  | p :: _, _ => ptr p.1
def lastp : Value → List Pg → Value
  | pv, [] => pv
  | _, p :: r => lastp (ptr p.1) r
def Chain (w : World) : Value → List Pg → Value → Prop
  | _, [], _ => True
  | pv, p :: r, nx => (∃ rest, PageAt w p.1 p.2 rest (hdp r nx) pv) ∧ Chain w (ptr p.1) r nx

theorem hdp_append (A B : List Pg) (nx : Value) : hdp (A ++ B) nx = hdp A (hdp B nx) := by cases A <;> rfl
theorem lastp_append (A B : List Pg) (pv : Value) : lastp pv (A ++ B) = lastp (lastp pv A) B := by
  induction A generalizing pv with
  | nil => rfl
  | cons p A ih => exact ih _
theorem chain_append {w : World} (A B : List Pg) (pv nx : Value) : Chain w pv (A ++ B) nx ↔ Chain w pv A (hdp B nx) ∧ Chain w (lastp pv A) B nx := by
  induction A generalizing pv with
  | nil => simp [Chain, lastp]
  | cons p A ih =>
    simp only [List.cons_append, Chain, lastp, ih, hdp_append]
    exact ⟨fun ⟨h1, h2, h3⟩ => ⟨⟨h1, h2⟩, h3⟩, fun ⟨⟨h1, h2⟩, h3⟩ => ⟨h1, h2, h3⟩⟩
theorem chain_chg {S : Nat → Prop} {w w' : World} : ∀ {A : List Pg} {pv nx : Value}, Chain w pv A nx → Chg S w w' → (∀ p ∈ A, ¬ S p.1) → Chain w' pv A nx
  | [], _, _, _, _, _ => trivial
  | p :: r, _, _, ⟨⟨rest, h1⟩, h2⟩, hc, hn => ⟨⟨rest, h1.chg hc (hn p (by simp))⟩, chain_chg h2 hc (fun q hq => hn q (by simp [hq]))⟩
theorem chain_lt {w : World} : ∀ {A : List Pg} {pv nx : Value}, Chain w pv A nx → ∀ p ∈ A, p.1 < w.heap.size
  | q :: r, _, _, ⟨⟨_, h1⟩, h2⟩, p, hp => by
    rcases List.mem_cons.1 hp with rfl | hp
    · exact h1.lt
    · exact chain_lt h2 p hp
theorem chain_page {w : World} : ∀ {A : List Pg} {pv nx : Value}, Chain w pv A nx → ∀ p ∈ A, ∃ rest nx' pv', PageAt w p.1 p.2 rest nx' pv'
  | q :: r, _, _, ⟨⟨rest, h1⟩, h2⟩, p, hp => by
    rcases List.mem_cons.1 hp with rfl | hp
    · exact ⟨_, _, _, h1⟩
    · exact chain_page h2 p hp

def ents (P : List Pg) : List XE := P.flatMap (·.2)
theorem ents_append (A B : List Pg) : ents (A ++ B) = ents A ++ ents B := by simp [ents]
theorem ents_cons (p : Pg) (B : List Pg) : ents (p :: B) = p.2 ++ ents B := by simp [ents]

def Blocks (P : List Pg) : List Nat := P.map (·.1)

/-- Two kinds of blocks are two blocks. -/
theorem tag_ne {w : World} {a b : Nat} {c d : Array Value} {t u : TypeId} {f g : Nat × Nat} (h1 : w.heap[a]? = some (.cells c t f)) (h2 : w.heap[b]? = some (.cells d u g)) (hne : t ≠ u) : ¬ a = b := by
  rintro rfl
  rw [h1] at h2
  injection h2 with h2
  injection h2 with _ h2
  exact hne h2

/-- A tree with a root. -/
structure Rooted (w : World) (t x : Nat) (P : List Pg) (c : Int) : Prop where
  tree : ∃ ver, TreeW w t c (hdp P (.pointer none)) (lastp (.pointer none) P) (.iface 169 (ptr x)) ver
  root : ∃ b0 bs xr, Blocks P = b0 :: bs ∧ RootAt w x b0 bs xr
  chain : Chain w (.pointer none) P (.pointer none)
  sizes : ∀ p ∈ P, 64 ≤ p.2.length ∧ p.2.length ≤ 128
  nodup : (Blocks P).Nodup
  two : 2 ≤ P.length

/-- A tree of one page. -/
structure Lone (w : World) (t b : Nat) (es : List XE) (c : Int) : Prop where
  tree : ∃ ver, TreeW w t c (ptr b) (ptr b) (.iface 149 (ptr b)) ver
  page : ∃ rest, PageAt w b es rest (.pointer none) (.pointer none)
  size : 1 ≤ es.length ∧ es.length ≤ 128

/-- A tree and the blocks that it has. -/
inductive TreeAt (w : World) (t : Nat) : List XE → (Nat → Prop) → Prop where
  | none (h : ∃ ver, TreeW w t 0 (.pointer none) (.pointer none) .nilIface ver) : TreeAt w t [] (fun b => b = t)
  | lone {b : Nat} {es : List XE} (h : Lone w t b es es.length) : TreeAt w t es (fun k => k = t ∨ k = b)
  | many {x : Nat} {P : List Pg} (h : Rooted w t x P (ents P).length) : TreeAt w t (ents P) (fun k => (k = t ∨ k = x) ∨ k ∈ Blocks P)

theorem Rooted.pages {w : World} {t x : Nat} {P : List Pg} {c : Int} (h : Rooted w t x P c) : P.length * 64 ≤ (ents P).length := by
  have hs := h.sizes
  clear h
  induction P with
  | nil => simp
  | cons p P ih =>
    rw [ents_cons, List.length_append, List.length_cons, Nat.succ_mul]
    have h1 := hs p (by simp)
    have h2 := ih (fun q hq => hs q (by simp [hq]))
    omega

theorem Lone.ne {w : World} {t b : Nat} {es : List XE} {c : Int} (h : Lone w t b es c) : ¬ t = b := by
  obtain ⟨_, h1⟩ := h.tree
  obtain ⟨_, h2⟩ := h.page
  exact tag_ne h1 h2.heap (by decide)

end Go.Proofs.YtffgkocokkhahaaGreatDoor

/- Walking the tree: (*xenumerator).next, prev. -/
namespace Go.Proofs.YtffgkocokkhahaaGreatDoor
open Go.RowKit

/-- What goes through the tree. -/
def EnumAt (w : World) (b : Nat) (err : Value) (hit : Bool) (i : Int) (kv : Value) (kh : Int) (q : Value) (t : Nat) (ver : Int) (uni : Bool) : Prop :=
  w.heap[b]? = some (.cells #[err, .bool hit, .int .i64 i, kv, .int .i64 kh, q, ptr t, .int .i64 ver, .bool uni] 153 (0, 0))

/-- The end's own error. -/
structure HasEof (w : World) (E : Value) : Prop where
  lt : 4 < w.heap.size
  cell : w.cell? ⟨4, 0, none⟩ = some E
  form : ∃ a, E = .iface 194 (.pointer (some a))
theorem HasEof.below {w w' : World} {E : Value} (h : HasEof w E) (hb : Below w.heap.size w w') : HasEof w' E :=
  ⟨Nat.lt_of_lt_of_le h.lt hb.size, by rw [hb.cell (p := ⟨4, 0, none⟩) h.lt]; exact h.cell, h.form⟩
theorem HasEof.chg {S : Nat → Prop} {w w' : World} {E : Value} (h : HasEof w E) (hc : Chg S w w') (hn : ¬ S 4) : HasEof w' E :=
  ⟨Nat.lt_of_lt_of_le h.lt hc.size, by rw [World.cell?_of_block (w := w) (hc.block _ h.lt hn)]; exact h.cell, h.form⟩

set_option maxRecDepth 100000 in
set_option maxHeartbeats 1000000 in
/-- On within a page. -/
theorem next_in (b q i : Nat) (hit : Bool) (kv : Value) (kh : Int) (t : Nat) (ver : Int) (uni : Bool) (es : List XE) (rest : List Value) (nx pv : Value) (w : World)
    (he : EnumAt w b .nilIface hit i kv kh (ptr q) t ver uni) (hq : PageAt w q es rest nx pv) (hi : i + 1 < es.length) :
    Calls Tryz.prog 149 #[.pointer (some ⟨b, 0, none⟩)] w fun y w' => y = .returned .nilIface ∧ EnumAt w' b .nilIface hit ((i + 1 : Nat) : Int) kv kh (ptr q) t ver uni ∧ Chg (fun k => k = b) w w' := by
  have hle := hq.le
  have c0 : w.cell? ⟨b, 0, none⟩ = some .nilIface := cell_of_heap he 0
  have c2 : w.cell? ⟨b, 2, none⟩ = some (.int .i64 i) := cell_of_heap he 2
  have c5 : w.cell? ⟨b, 5, none⟩ = some (.pointer (some ⟨q, 0, none⟩)) := cell_of_heap he 5
  have f2 : w.frozen? ⟨b, 2, none⟩ = false := free_of_heap he 2
  have cq : w.cell? ⟨q, 0, none⟩ = some (.int .i64 es.length) := by rw [hq.cell]; rfl
  have hlt : (i : Int) < ↑es.length - 1 := by omega
  have hw : IntKind.i64.wrap (↑es.length - 1) = (es.length : Int) - 1 := IntWalk.i64_in _ (by omega)
  have HE := Lib.hid he
  clear he hq
  go_enter Tryz.func149, Tryz.ntmps149
  go_wp2
  go_still_tail 13, (by kernel_rfl)
  change wpList _ _ _ _ _ w.drew
  go_wp2
  go_ret
  refine ⟨rfl, ?_, (Chg.setCell (Chg.refl (fun k => k = b) w) (p := ⟨b, 2, none⟩) (.inl rfl) _).drew⟩
  unfold EnumAt
  simp only [heap_drew, heap_setCell_at, show w.heap[b]? = _ from HE.out, Option.map_some, updObj_cells]
  rfl

set_option maxRecDepth 100000 in
set_option maxHeartbeats 1000000 in
/-- On to the next page. -/
theorem next_page (b q i q2 : Nat) (hit : Bool) (kv : Value) (kh : Int) (t : Nat) (ver : Int) (uni : Bool) (es : List XE) (rest : List Value) (pv : Value) (w : World)
    (he : EnumAt w b .nilIface hit i kv kh (ptr q) t ver uni) (hq : PageAt w q es rest (ptr q2) pv) (hi : i + 1 = es.length) :
    Calls Tryz.prog 149 #[.pointer (some ⟨b, 0, none⟩)] w fun y w' => y = .returned .nilIface ∧ EnumAt w' b .nilIface hit ((0 : Nat) : Int) kv kh (ptr q2) t ver uni ∧ Chg (fun k => k = b) w w' := by
  have hle := hq.le
  have hroom := hq.room
  have c0 : w.cell? ⟨b, 0, none⟩ = some .nilIface := cell_of_heap he 0
  have c2 : w.cell? ⟨b, 2, none⟩ = some (.int .i64 i) := cell_of_heap he 2
  have c5 : w.cell? ⟨b, 5, none⟩ = some (.pointer (some ⟨q, 0, none⟩)) := cell_of_heap he 5
  have f2 : w.frozen? ⟨b, 2, none⟩ = false := free_of_heap he 2
  have f5 : w.frozen? ⟨b, 5, none⟩ = false := free_of_heap he 5
  have cq : w.cell? ⟨q, 0, none⟩ = some (.int .i64 es.length) := by rw [hq.cell]; rfl
  have cn : w.cell? ⟨q, 388, none⟩ = some (.pointer (some ⟨q2, 0, none⟩)) := by rw [hq.cell, pgL_tail XE.cells 3 XE.three es rest _ 388 0 (by omega)]; rfl
  have hlt : ((i : Int) < ↑es.length - 1) = False := by simp; omega
  have hw : IntKind.i64.wrap (↑es.length - 1) = (es.length : Int) - 1 := IntWalk.i64_in _ (by omega)
  have hbq : ¬ b = q := tag_ne he hq.heap (by decide)
  have hqb : ¬ q = b := fun h => hbq h.symm
  have HE := Lib.hid he
  clear he hq
  go_enter Tryz.func149, Tryz.ntmps149
  go_wp2
  go_still_tail 13, (by kernel_rfl)
  change wpList _ _ _ _ _ w.drew
  go_wp2
  go_ret
  refine ⟨rfl, ?_, (Chg.setCell (Chg.setCell (Chg.refl (fun k => k = b) w).drew (p := ⟨b, 5, none⟩) (.inl rfl) _) (p := ⟨b, 2, none⟩) (.inl rfl) _)⟩
  unfold EnumAt
  simp only [heap_drew, heap_setCell_at, show w.heap[b]? = _ from HE.out, Option.map_some, updObj_cells]
  rfl

set_option maxRecDepth 100000 in
set_option maxHeartbeats 1000000 in
/-- Behind the last page. -/
theorem next_end (b q i : Nat) (hit : Bool) (kv : Value) (kh : Int) (t : Nat) (ver : Int) (uni : Bool) (es : List XE) (rest : List Value) (pv : Value) (E : Value) (w : World)
    (he : EnumAt w b .nilIface hit i kv kh (ptr q) t ver uni) (hq : PageAt w q es rest (.pointer none) pv) (hi : i + 1 = es.length) (hE : HasEof w E) (hbg : ¬ 4 = b) :
    Calls Tryz.prog 149 #[.pointer (some ⟨b, 0, none⟩)] w fun y w' => y = .returned E ∧ EnumAt w' b E hit ((0 : Nat) : Int) kv kh (.pointer none) t ver uni ∧ Chg (fun k => k = b) w w' := by
  have hle := hq.le
  have hroom := hq.room
  have c0 : w.cell? ⟨b, 0, none⟩ = some .nilIface := cell_of_heap he 0
  have c2 : w.cell? ⟨b, 2, none⟩ = some (.int .i64 i) := cell_of_heap he 2
  have c5 : w.cell? ⟨b, 5, none⟩ = some (.pointer (some ⟨q, 0, none⟩)) := cell_of_heap he 5
  have f0 : w.frozen? ⟨b, 0, none⟩ = false := free_of_heap he 0
  have f2 : w.frozen? ⟨b, 2, none⟩ = false := free_of_heap he 2
  have f5 : w.frozen? ⟨b, 5, none⟩ = false := free_of_heap he 5
  have cq : w.cell? ⟨q, 0, none⟩ = some (.int .i64 es.length) := by rw [hq.cell]; rfl
  have cn : w.cell? ⟨q, 388, none⟩ = some (.pointer none) := by rw [hq.cell, pgL_tail XE.cells 3 XE.three es rest _ 388 0 (by omega)]; rfl
  have hlt : ((i : Int) < ↑es.length - 1) = False := by simp; omega
  have hw : IntKind.i64.wrap (↑es.length - 1) = (es.length : Int) - 1 := IntWalk.i64_in _ (by omega)
  have hbq : ¬ b = q := tag_ne he hq.heap (by decide)
  have hqb : ¬ q = b := fun h => hbq h.symm
  have hbg' : ¬ b = 4 := fun h => hbg h.symm
  have HE := Lib.hid he
  obtain ⟨gl, gc, a, rfl⟩ := hE
  clear he hq
  go_enter Tryz.func149, Tryz.ntmps149
  go_wp2
  go_still_tail 13, (by kernel_rfl)
  change wpList _ _ _ _ _ w.drew
  go_wp2
  go_ret
  refine ⟨rfl, ?_, (Chg.setCell (Chg.setCell (Chg.setCell (Chg.refl (fun k => k = b) w).drew (p := ⟨b, 5, none⟩) (.inl rfl) _) (p := ⟨b, 2, none⟩) (.inl rfl) _) (p := ⟨b, 0, none⟩) (.inl rfl) _)⟩
  unfold EnumAt
  simp only [heap_drew, heap_setCell_at, show w.heap[b]? = _ from HE.out, Option.map_some, updObj_cells]
  rfl

set_option maxRecDepth 100000 in
set_option maxHeartbeats 1000000 in
/-- Back within a page. -/
theorem prev_in (b q i j : Nat) (hit : Bool) (kv : Value) (kh : Int) (t : Nat) (ver : Int) (uni : Bool) (w : World)
    (he : EnumAt w b .nilIface hit i kv kh (ptr q) t ver uni) (hi : i = j + 1) (hb : i ≤ 129) :
    Calls Tryz.prog 150 #[.pointer (some ⟨b, 0, none⟩)] w fun y w' => y = .returned .nilIface ∧ EnumAt w' b .nilIface hit (j : Int) kv kh (ptr q) t ver uni ∧ Chg (fun k => k = b) w w' := by
  have c0 : w.cell? ⟨b, 0, none⟩ = some .nilIface := cell_of_heap he 0
  have c2 : w.cell? ⟨b, 2, none⟩ = some (.int .i64 i) := cell_of_heap he 2
  have c5 : w.cell? ⟨b, 5, none⟩ = some (.pointer (some ⟨q, 0, none⟩)) := cell_of_heap he 5
  have f2 : w.frozen? ⟨b, 2, none⟩ = false := free_of_heap he 2
  have hi0 : 0 < i := by omega
  have hj : (i : Int) - 1 = (j : Int) := by omega
  have HE := Lib.hid he
  clear he hi
  go_enter Tryz.func150, Tryz.ntmps150
  go_wp2
  go_ret
  refine ⟨rfl, ?_, Chg.setCell (Chg.refl (fun k => k = b) w) (p := ⟨b, 2, none⟩) (.inl rfl) _⟩
  unfold EnumAt
  simp only [heap_setCell_at, show w.heap[b]? = _ from HE.out, Option.map_some, updObj_cells]
  rfl

set_option maxRecDepth 100000 in
set_option maxHeartbeats 1000000 in
/-- Back to the page ahead. -/
theorem prev_page (b q q2 j : Nat) (hit : Bool) (kv : Value) (kh : Int) (t : Nat) (ver : Int) (uni : Bool) (es es2 : List XE) (rest rest2 : List Value) (nx nx2 pv2 : Value) (w : World)
    (he : EnumAt w b .nilIface hit ((0 : Nat) : Int) kv kh (ptr q) t ver uni) (hq : PageAt w q es rest nx (ptr q2)) (hq2 : PageAt w q2 es2 rest2 nx2 pv2) (hj : es2.length = j + 1) :
    Calls Tryz.prog 150 #[.pointer (some ⟨b, 0, none⟩)] w fun y w' => y = .returned .nilIface ∧ EnumAt w' b .nilIface hit (j : Int) kv kh (ptr q2) t ver uni ∧ Chg (fun k => k = b) w w' := by
  have hle := hq2.le
  have hroom := hq.room
  have c0 : w.cell? ⟨b, 0, none⟩ = some .nilIface := cell_of_heap he 0
  have c2 : w.cell? ⟨b, 2, none⟩ = some (.int .i64 0) := cell_of_heap he 2
  have c5 : w.cell? ⟨b, 5, none⟩ = some (.pointer (some ⟨q, 0, none⟩)) := cell_of_heap he 5
  have f2 : w.frozen? ⟨b, 2, none⟩ = false := free_of_heap he 2
  have f5 : w.frozen? ⟨b, 5, none⟩ = false := free_of_heap he 5
  have cn : w.cell? ⟨q, 389, none⟩ = some (.pointer (some ⟨q2, 0, none⟩)) := by rw [hq.cell, pgL_tail XE.cells 3 XE.three es rest _ 389 1 (by omega)]; rfl
  have cq2 : w.cell? ⟨q2, 0, none⟩ = some (.int .i64 es2.length) := by rw [hq2.cell]; rfl
  have hbq : ¬ b = q := tag_ne he hq.heap (by decide)
  have hqb : ¬ q = b := fun h => hbq h.symm
  have hbq2 : ¬ b = q2 := tag_ne he hq2.heap (by decide)
  have hqb2 : ¬ q2 = b := fun h => hbq2 h.symm
  have hj2 : (es2.length : Int) - 1 = (j : Int) := by omega
  have HE := Lib.hid he
  clear he hq hq2 hj
  go_enter Tryz.func150, Tryz.ntmps150
  go_wp2
  go_ret
  refine ⟨rfl, ?_, Chg.setCell (Chg.setCell (Chg.refl (fun k => k = b) w) (p := ⟨b, 5, none⟩) (.inl rfl) _) (p := ⟨b, 2, none⟩) (.inl rfl) _⟩
  unfold EnumAt
  simp only [heap_setCell_at, show w.heap[b]? = _ from HE.out, Option.map_some, updObj_cells]
  rfl

set_option maxRecDepth 100000 in
set_option maxHeartbeats 1000000 in
/-- Ahead of the first page. -/
theorem prev_end (b q : Nat) (hit : Bool) (kv : Value) (kh : Int) (t : Nat) (ver : Int) (uni : Bool) (es : List XE) (rest : List Value) (nx : Value) (E : Value) (w : World)
    (he : EnumAt w b .nilIface hit ((0 : Nat) : Int) kv kh (ptr q) t ver uni) (hq : PageAt w q es rest nx (.pointer none)) (hE : HasEof w E) (hbg : ¬ 4 = b) :
    Calls Tryz.prog 150 #[.pointer (some ⟨b, 0, none⟩)] w fun y w' => y = .returned E ∧ EnumAt w' b E hit ((0 : Nat) : Int) kv kh (.pointer none) t ver uni ∧ Chg (fun k => k = b) w w' := by
  have hroom := hq.room
  have c0 : w.cell? ⟨b, 0, none⟩ = some .nilIface := cell_of_heap he 0
  have c2 : w.cell? ⟨b, 2, none⟩ = some (.int .i64 0) := cell_of_heap he 2
  have c5 : w.cell? ⟨b, 5, none⟩ = some (.pointer (some ⟨q, 0, none⟩)) := cell_of_heap he 5
  have f0 : w.frozen? ⟨b, 0, none⟩ = false := free_of_heap he 0
  have f5 : w.frozen? ⟨b, 5, none⟩ = false := free_of_heap he 5
  have cn : w.cell? ⟨q, 389, none⟩ = some (.pointer none) := by rw [hq.cell, pgL_tail XE.cells 3 XE.three es rest _ 389 1 (by omega)]; rfl
  have hbq : ¬ b = q := tag_ne he hq.heap (by decide)
  have hqb : ¬ q = b := fun h => hbq h.symm
  have hbg' : ¬ b = 4 := fun h => hbg h.symm
  have HE := Lib.hid he
  obtain ⟨gl, gc, a, rfl⟩ := hE
  clear he hq
  go_enter Tryz.func150, Tryz.ntmps150
  go_wp2
  go_ret
  refine ⟨rfl, ?_, Chg.setCell (Chg.setCell (Chg.refl (fun k => k = b) w) (p := ⟨b, 5, none⟩) (.inl rfl) _) (p := ⟨b, 0, none⟩) (.inl rfl) _⟩
  unfold EnumAt
  simp only [heap_setCell_at, show w.heap[b]? = _ from HE.out, Option.map_some, updObj_cells]
  rfl

end Go.Proofs.YtffgkocokkhahaaGreatDoor

/- Walking the tree: (*xenumerator).Next, Prev at a place. PRINTED BY wip/tpl/gen_xh.py. -/
namespace Go.Proofs.YtffgkocokkhahaaGreatDoor
open Go.RowKit

set_option maxRecDepth 100000 in
set_option maxHeartbeats 1000000 in
theorem Next_at (b q i : Nat) (hit : Bool) (kv : Value) (kh : Int) (t : Nat) (ver : Int) (uni : Bool) (es : List XE) (rest : List Value) (nx pv : Value) (x : XE) (c : Int) (fi la r : Value) (w : World)
    (he : EnumAt w b .nilIface hit i kv kh (ptr q) t ver uni) (hq : PageAt w q es rest nx pv) (hi : es[i]? = some x) (ht : TreeW w t c fi la r ver) (kv1 : ∃ A m p, kv = .slice A m p) (R : Value) (i' : Nat) (q' : Value)
    (HN : Hid (∀ w1, Chg (fun k => k = b) w w1 → EnumAt w1 b .nilIface false i (.slice x.A x.m x.p) x.h (ptr q) t ver uni → Calls Tryz.prog 149 #[.pointer (some ⟨b, 0, none⟩)] w1
      fun y w' => y = .returned R ∧ EnumAt w' b R false i' (.slice x.A x.m x.p) x.h q' t ver uni ∧ Chg (fun k => k = b) w1 w')) :
    Calls Tryz.prog 147 #[.pointer (some ⟨b, 0, none⟩)] w
      fun y w' => y = .returned (.tuple #[.agg #[.slice x.A x.m x.p, .int .i64 x.h], .int .i64 x.n, .nilIface]) ∧ EnumAt w' b R false i' (.slice x.A x.m x.p) x.h q' t ver uni ∧ Chg (fun k => k = b) w w' := by
  have hle := hq.le
  have hin : i < es.length := (List.getElem?_eq_some_iff.1 hi).1
  obtain ⟨A, m, p, rfl⟩ := kv1
  have HE := Lib.hid he
  have HQ := Lib.hid hq
  have HT := Lib.hid ht
  have HI := Lib.hid hi
  have hg : ((es.length : Int) ≤ i) = False := by simp; omega
  have hi1 : (i : Int) < 129 := by omega
  have hi2 : (0 : Int) ≤ i := by omega
  have hvv : (ver != ver) = false := by simp
  have hcc : (w.alloc (.cells #[.slice none 0 0, .int .i64 0] 136)).heap[w.heap.size]? = some (.cells #[.slice none 0 0, .int .i64 0] 136 (0, 0)) := heap_new w _
  have HKA := Lib.hid hcc
  clear he hq ht hi hcc
  have c0 : w.cell? ⟨b, 0, none⟩ = some .nilIface := cell_of_heap (heap_below HE.out (Below.refl _ _)) 0
  have c1 : w.cell? ⟨b, 1, none⟩ = some (.bool hit) := cell_of_heap (heap_below HE.out (Below.refl _ _)) 1
  have c2 : w.cell? ⟨b, 2, none⟩ = some (.int .i64 i) := cell_of_heap (heap_below HE.out (Below.refl _ _)) 2
  have c3 : w.cell? ⟨b, 3, none⟩ = some (.slice A m p) := cell_of_heap (heap_below HE.out (Below.refl _ _)) 3
  have c4 : w.cell? ⟨b, 4, none⟩ = some (.int .i64 kh) := cell_of_heap (heap_below HE.out (Below.refl _ _)) 4
  have c5 : w.cell? ⟨b, 5, none⟩ = some (.pointer (some ⟨q, 0, none⟩)) := cell_of_heap (heap_below HE.out (Below.refl _ _)) 5
  have c6 : w.cell? ⟨b, 6, none⟩ = some (.pointer (some ⟨t, 0, none⟩)) := cell_of_heap (heap_below HE.out (Below.refl _ _)) 6
  have c7 : w.cell? ⟨b, 7, none⟩ = some (.int .i64 ver) := cell_of_heap (heap_below HE.out (Below.refl _ _)) 7
  have f1 : w.frozen? ⟨b, 1, none⟩ = false := free_of_heap (heap_below HE.out (Below.refl _ _)) 1
  have f3 : w.frozen? ⟨b, 3, none⟩ = false := free_of_heap (heap_below HE.out (Below.refl _ _)) 3
  have f4 : w.frozen? ⟨b, 4, none⟩ = false := free_of_heap (heap_below HE.out (Below.refl _ _)) 4
  have cq : w.cell? ⟨q, 0, none⟩ = some (.int .i64 es.length) := by rw [(HQ.out.below (Below.refl _ _)).cell]; rfl
  have ct : w.cell? ⟨t, 4, none⟩ = some (.int .i64 ver) := cell_of_heap (heap_below HT.out (Below.refl _ _)) 4
  have e0 : w.cell? ⟨q, 1 + i * 3, none⟩ = some (.slice x.A x.m x.p) := ((HQ.out.below (Below.refl _ _)).cell _).trans (pgL_at XE.cells 3 XE.three es rest [nx, pv] i 0 x _ HI.out (by omega) rfl)
  have e1 : w.cell? ⟨q, 1 + i * 3 + 1, none⟩ = some (.int .i64 x.h) := ((HQ.out.below (Below.refl _ _)).cell _).trans (pgL_at XE.cells 3 XE.three es rest [nx, pv] i 1 x _ HI.out (by omega) rfl)
  have e2 : w.cell? ⟨q, 1 + i * 3 + 2, none⟩ = some (.int .i64 x.n) := ((HQ.out.below (Below.refl _ _)).cell _).trans (pgL_at XE.cells 3 XE.three es rest [nx, pv] i 2 x _ HI.out (by omega) rfl)
  have lb : b < w.heap.size := lt_of_heap (heap_below HE.out (Below.refl _ _))
  have lq : q < w.heap.size := (HQ.out.below (Below.refl _ _)).lt
  have lt : t < w.heap.size := lt_of_heap (heap_below HT.out (Below.refl _ _))
  go_enter Tryz.func147, Tryz.ntmps147
  go_wp2_with fail
  obtain ⟨wa, hwa⟩ : ∃ wa, wa = w.alloc (.cells #[.slice none 0 0, .int .i64 0] 136) := ⟨_, rfl⟩
  rw [← hwa]
  have HBA := Lib.hid (show Below w.heap.size w wa by rw [hwa]; exact (Below.refl _ _).alloc (Nat.le_refl _) _)
  rw [← hwa] at HKA
  clear c0 c1 c2 c3 c4 c5 c6 c7 f1 f3 f4 cq ct e0 e1 e2 lb lq lt
  have c0 : wa.cell? ⟨b, 0, none⟩ = some .nilIface := cell_of_heap (heap_below HE.out HBA.out) 0
  have c1 : wa.cell? ⟨b, 1, none⟩ = some (.bool hit) := cell_of_heap (heap_below HE.out HBA.out) 1
  have c2 : wa.cell? ⟨b, 2, none⟩ = some (.int .i64 i) := cell_of_heap (heap_below HE.out HBA.out) 2
  have c3 : wa.cell? ⟨b, 3, none⟩ = some (.slice A m p) := cell_of_heap (heap_below HE.out HBA.out) 3
  have c4 : wa.cell? ⟨b, 4, none⟩ = some (.int .i64 kh) := cell_of_heap (heap_below HE.out HBA.out) 4
  have c5 : wa.cell? ⟨b, 5, none⟩ = some (.pointer (some ⟨q, 0, none⟩)) := cell_of_heap (heap_below HE.out HBA.out) 5
  have c6 : wa.cell? ⟨b, 6, none⟩ = some (.pointer (some ⟨t, 0, none⟩)) := cell_of_heap (heap_below HE.out HBA.out) 6
  have c7 : wa.cell? ⟨b, 7, none⟩ = some (.int .i64 ver) := cell_of_heap (heap_below HE.out HBA.out) 7
  have f1 : wa.frozen? ⟨b, 1, none⟩ = false := free_of_heap (heap_below HE.out HBA.out) 1
  have f3 : wa.frozen? ⟨b, 3, none⟩ = false := free_of_heap (heap_below HE.out HBA.out) 3
  have f4 : wa.frozen? ⟨b, 4, none⟩ = false := free_of_heap (heap_below HE.out HBA.out) 4
  have cq : wa.cell? ⟨q, 0, none⟩ = some (.int .i64 es.length) := by rw [(HQ.out.below HBA.out).cell]; rfl
  have ct : wa.cell? ⟨t, 4, none⟩ = some (.int .i64 ver) := cell_of_heap (heap_below HT.out HBA.out) 4
  have e0 : wa.cell? ⟨q, 1 + i * 3, none⟩ = some (.slice x.A x.m x.p) := ((HQ.out.below HBA.out).cell _).trans (pgL_at XE.cells 3 XE.three es rest [nx, pv] i 0 x _ HI.out (by omega) rfl)
  have e1 : wa.cell? ⟨q, 1 + i * 3 + 1, none⟩ = some (.int .i64 x.h) := ((HQ.out.below HBA.out).cell _).trans (pgL_at XE.cells 3 XE.three es rest [nx, pv] i 1 x _ HI.out (by omega) rfl)
  have e2 : wa.cell? ⟨q, 1 + i * 3 + 2, none⟩ = some (.int .i64 x.n) := ((HQ.out.below HBA.out).cell _).trans (pgL_at XE.cells 3 XE.three es rest [nx, pv] i 2 x _ HI.out (by omega) rfl)
  have lb : b < wa.heap.size := lt_of_heap (heap_below HE.out HBA.out)
  have lq : q < wa.heap.size := (HQ.out.below HBA.out).lt
  have lt : t < wa.heap.size := lt_of_heap (heap_below HT.out HBA.out)
  clear hwa
  go_still_tail 11, (by kernel_rfl)
  obtain ⟨wb, hwb⟩ : ∃ wb, wb = wa.drew := ⟨_, rfl⟩
  change wpList _ _ _ _ _ wa.drew
  rw [← hwb]
  have HBB := Lib.hid (show Below w.heap.size w wb by rw [hwb]; exact HBA.out.drew)
  have HKB := Lib.hid (show wb.heap[w.heap.size]? = some (.cells #[.slice none 0 0, .int .i64 0] 136 (0, 0)) by rw [hwb]; exact HKA.out)
  clear c0 c1 c2 c3 c4 c5 c6 c7 f1 f3 f4 cq ct e0 e1 e2 lb lq lt
  have c0 : wb.cell? ⟨b, 0, none⟩ = some .nilIface := cell_of_heap (heap_below HE.out HBB.out) 0
  have c1 : wb.cell? ⟨b, 1, none⟩ = some (.bool hit) := cell_of_heap (heap_below HE.out HBB.out) 1
  have c2 : wb.cell? ⟨b, 2, none⟩ = some (.int .i64 i) := cell_of_heap (heap_below HE.out HBB.out) 2
  have c3 : wb.cell? ⟨b, 3, none⟩ = some (.slice A m p) := cell_of_heap (heap_below HE.out HBB.out) 3
  have c4 : wb.cell? ⟨b, 4, none⟩ = some (.int .i64 kh) := cell_of_heap (heap_below HE.out HBB.out) 4
  have c5 : wb.cell? ⟨b, 5, none⟩ = some (.pointer (some ⟨q, 0, none⟩)) := cell_of_heap (heap_below HE.out HBB.out) 5
  have c6 : wb.cell? ⟨b, 6, none⟩ = some (.pointer (some ⟨t, 0, none⟩)) := cell_of_heap (heap_below HE.out HBB.out) 6
  have c7 : wb.cell? ⟨b, 7, none⟩ = some (.int .i64 ver) := cell_of_heap (heap_below HE.out HBB.out) 7
  have f1 : wb.frozen? ⟨b, 1, none⟩ = false := free_of_heap (heap_below HE.out HBB.out) 1
  have f3 : wb.frozen? ⟨b, 3, none⟩ = false := free_of_heap (heap_below HE.out HBB.out) 3
  have f4 : wb.frozen? ⟨b, 4, none⟩ = false := free_of_heap (heap_below HE.out HBB.out) 4
  have cq : wb.cell? ⟨q, 0, none⟩ = some (.int .i64 es.length) := by rw [(HQ.out.below HBB.out).cell]; rfl
  have ct : wb.cell? ⟨t, 4, none⟩ = some (.int .i64 ver) := cell_of_heap (heap_below HT.out HBB.out) 4
  have e0 : wb.cell? ⟨q, 1 + i * 3, none⟩ = some (.slice x.A x.m x.p) := ((HQ.out.below HBB.out).cell _).trans (pgL_at XE.cells 3 XE.three es rest [nx, pv] i 0 x _ HI.out (by omega) rfl)
  have e1 : wb.cell? ⟨q, 1 + i * 3 + 1, none⟩ = some (.int .i64 x.h) := ((HQ.out.below HBB.out).cell _).trans (pgL_at XE.cells 3 XE.three es rest [nx, pv] i 1 x _ HI.out (by omega) rfl)
  have e2 : wb.cell? ⟨q, 1 + i * 3 + 2, none⟩ = some (.int .i64 x.n) := ((HQ.out.below HBB.out).cell _).trans (pgL_at XE.cells 3 XE.three es rest [nx, pv] i 2 x _ HI.out (by omega) rfl)
  have lb : b < wb.heap.size := lt_of_heap (heap_below HE.out HBB.out)
  have lq : q < wb.heap.size := (HQ.out.below HBB.out).lt
  have lt : t < wb.heap.size := lt_of_heap (heap_below HT.out HBB.out)
  clear hwb
  go_wp2_with fail
  go_still_tail 11, (by kernel_rfl)
  obtain ⟨wc, hwc⟩ : ∃ wc, wc = wb.drew := ⟨_, rfl⟩
  change wpList _ _ _ _ _ wb.drew
  rw [← hwc]
  have HBC := Lib.hid (show Below w.heap.size w wc by rw [hwc]; exact HBB.out.drew)
  have HKC := Lib.hid (show wc.heap[w.heap.size]? = some (.cells #[.slice none 0 0, .int .i64 0] 136 (0, 0)) by rw [hwc]; exact HKB.out)
  clear c0 c1 c2 c3 c4 c5 c6 c7 f1 f3 f4 cq ct e0 e1 e2 lb lq lt
  have c0 : wc.cell? ⟨b, 0, none⟩ = some .nilIface := cell_of_heap (heap_below HE.out HBC.out) 0
  have c1 : wc.cell? ⟨b, 1, none⟩ = some (.bool hit) := cell_of_heap (heap_below HE.out HBC.out) 1
  have c2 : wc.cell? ⟨b, 2, none⟩ = some (.int .i64 i) := cell_of_heap (heap_below HE.out HBC.out) 2
  have c3 : wc.cell? ⟨b, 3, none⟩ = some (.slice A m p) := cell_of_heap (heap_below HE.out HBC.out) 3
  have c4 : wc.cell? ⟨b, 4, none⟩ = some (.int .i64 kh) := cell_of_heap (heap_below HE.out HBC.out) 4
  have c5 : wc.cell? ⟨b, 5, none⟩ = some (.pointer (some ⟨q, 0, none⟩)) := cell_of_heap (heap_below HE.out HBC.out) 5
  have c6 : wc.cell? ⟨b, 6, none⟩ = some (.pointer (some ⟨t, 0, none⟩)) := cell_of_heap (heap_below HE.out HBC.out) 6
  have c7 : wc.cell? ⟨b, 7, none⟩ = some (.int .i64 ver) := cell_of_heap (heap_below HE.out HBC.out) 7
  have f1 : wc.frozen? ⟨b, 1, none⟩ = false := free_of_heap (heap_below HE.out HBC.out) 1
  have f3 : wc.frozen? ⟨b, 3, none⟩ = false := free_of_heap (heap_below HE.out HBC.out) 3
  have f4 : wc.frozen? ⟨b, 4, none⟩ = false := free_of_heap (heap_below HE.out HBC.out) 4
  have cq : wc.cell? ⟨q, 0, none⟩ = some (.int .i64 es.length) := by rw [(HQ.out.below HBC.out).cell]; rfl
  have ct : wc.cell? ⟨t, 4, none⟩ = some (.int .i64 ver) := cell_of_heap (heap_below HT.out HBC.out) 4
  have e0 : wc.cell? ⟨q, 1 + i * 3, none⟩ = some (.slice x.A x.m x.p) := ((HQ.out.below HBC.out).cell _).trans (pgL_at XE.cells 3 XE.three es rest [nx, pv] i 0 x _ HI.out (by omega) rfl)
  have e1 : wc.cell? ⟨q, 1 + i * 3 + 1, none⟩ = some (.int .i64 x.h) := ((HQ.out.below HBC.out).cell _).trans (pgL_at XE.cells 3 XE.three es rest [nx, pv] i 1 x _ HI.out (by omega) rfl)
  have e2 : wc.cell? ⟨q, 1 + i * 3 + 2, none⟩ = some (.int .i64 x.n) := ((HQ.out.below HBC.out).cell _).trans (pgL_at XE.cells 3 XE.three es rest [nx, pv] i 2 x _ HI.out (by omega) rfl)
  have lb : b < wc.heap.size := lt_of_heap (heap_below HE.out HBC.out)
  have lq : q < wc.heap.size := (HQ.out.below HBC.out).lt
  have lt : t < wc.heap.size := lt_of_heap (heap_below HT.out HBC.out)
  clear hwc
  go_wp2_with fail
  go_region
  obtain ⟨K, hK⟩ : ∃ K, K = w.heap.size := ⟨_, rfl⟩
  obtain ⟨N, hN⟩ : ∃ N, N = wc.heap.size := ⟨_, rfl⟩
  obtain ⟨wd, hwd⟩ : ∃ wd, wd = (wc.alloc (.cells #[.slice x.A x.m x.p, .int .i64 x.h, .int .i64 x.n] 172)).drew := ⟨_, rfl⟩
  rw [← hwd, ← hK, ← hN]
  have HBD := Lib.hid (show Below w.heap.size w wd by rw [hwd]; exact (HBC.out.alloc HBC.out.size _).drew)
  have hkd : wd.heap[K]? = some (.cells #[.slice none 0 0, .int .i64 0] 136 (0, 0)) := by rw [hwd, hK]; exact heap_old HKC.out _
  have hnd : wd.heap[N]? = some (.cells #[.slice x.A x.m x.p, .int .i64 x.h, .int .i64 x.n] 172 (0, 0)) := by rw [hwd, hN]; exact heap_new wc _
  have hKN : K < N := by rw [hK, hN]; exact lt_of_heap HKC.out
  have hbK : b < K := by rw [hK]; exact lt_of_heap HE.out
  have HKK := Lib.hid hK
  clear c0 c1 c2 c3 c4 c5 c6 c7 f1 f3 f4 cq ct e0 e1 e2 lb lq lt
  have c0 : wd.cell? ⟨b, 0, none⟩ = some .nilIface := cell_of_heap (heap_below HE.out HBD.out) 0
  have c1 : wd.cell? ⟨b, 1, none⟩ = some (.bool hit) := cell_of_heap (heap_below HE.out HBD.out) 1
  have c2 : wd.cell? ⟨b, 2, none⟩ = some (.int .i64 i) := cell_of_heap (heap_below HE.out HBD.out) 2
  have c3 : wd.cell? ⟨b, 3, none⟩ = some (.slice A m p) := cell_of_heap (heap_below HE.out HBD.out) 3
  have c4 : wd.cell? ⟨b, 4, none⟩ = some (.int .i64 kh) := cell_of_heap (heap_below HE.out HBD.out) 4
  have c5 : wd.cell? ⟨b, 5, none⟩ = some (.pointer (some ⟨q, 0, none⟩)) := cell_of_heap (heap_below HE.out HBD.out) 5
  have c6 : wd.cell? ⟨b, 6, none⟩ = some (.pointer (some ⟨t, 0, none⟩)) := cell_of_heap (heap_below HE.out HBD.out) 6
  have c7 : wd.cell? ⟨b, 7, none⟩ = some (.int .i64 ver) := cell_of_heap (heap_below HE.out HBD.out) 7
  have f1 : wd.frozen? ⟨b, 1, none⟩ = false := free_of_heap (heap_below HE.out HBD.out) 1
  have f3 : wd.frozen? ⟨b, 3, none⟩ = false := free_of_heap (heap_below HE.out HBD.out) 3
  have f4 : wd.frozen? ⟨b, 4, none⟩ = false := free_of_heap (heap_below HE.out HBD.out) 4
  have cq : wd.cell? ⟨q, 0, none⟩ = some (.int .i64 es.length) := by rw [(HQ.out.below HBD.out).cell]; rfl
  have ct : wd.cell? ⟨t, 4, none⟩ = some (.int .i64 ver) := cell_of_heap (heap_below HT.out HBD.out) 4
  have e0 : wd.cell? ⟨q, 1 + i * 3, none⟩ = some (.slice x.A x.m x.p) := ((HQ.out.below HBD.out).cell _).trans (pgL_at XE.cells 3 XE.three es rest [nx, pv] i 0 x _ HI.out (by omega) rfl)
  have e1 : wd.cell? ⟨q, 1 + i * 3 + 1, none⟩ = some (.int .i64 x.h) := ((HQ.out.below HBD.out).cell _).trans (pgL_at XE.cells 3 XE.three es rest [nx, pv] i 1 x _ HI.out (by omega) rfl)
  have e2 : wd.cell? ⟨q, 1 + i * 3 + 2, none⟩ = some (.int .i64 x.n) := ((HQ.out.below HBD.out).cell _).trans (pgL_at XE.cells 3 XE.three es rest [nx, pv] i 2 x _ HI.out (by omega) rfl)
  have lb : b < wd.heap.size := lt_of_heap (heap_below HE.out HBD.out)
  have lq : q < wd.heap.size := (HQ.out.below HBD.out).lt
  have lt : t < wd.heap.size := lt_of_heap (heap_below HT.out HBD.out)
  have ck0 := cell_of_heap hkd 0
  have ck1 := cell_of_heap hkd 1
  have fk0 := free_of_heap hkd 0
  have fk1 := free_of_heap hkd 1
  have cn0 := cell_of_heap hnd 0
  have cn1 := cell_of_heap hnd 1
  have cn2 := cell_of_heap hnd 2
  have HKD := Lib.hid hkd
  clear hwd hK hN hkd hnd
  go_wp2_with fail
  go_region
  go_wp2_with fail
  obtain ⟨w6, hw6⟩ : ∃ w6, w6 = (((((wd.setCell ⟨K, 0, none⟩ (.slice x.A x.m x.p)).setCell ⟨K, 1, none⟩ (.int .i64 x.h)).setCell ⟨b, 3, none⟩ (.slice x.A x.m x.p)).setCell ⟨b, 4, none⟩ (.int .i64 x.h)).setCell ⟨b, 1, none⟩ (.bool false)).drew := ⟨_, rfl⟩
  rw [← hw6]
  have hKb : ¬ K = b := by omega
  have hbK' : ¬ b = K := by omega
  have hc6 : Chg (fun k => k = b) w w6 := by
    have hk := HKK.out
    rw [hw6]
    exact (Chg.setCell (Chg.setCell (Chg.setCell (Chg.setCell (Chg.setCell (Chg.of_below (S := fun k => k = b) HBD.out) (p := ⟨K, 0, none⟩) (.inr (by show w.heap.size ≤ K; omega)) _) (p := ⟨K, 1, none⟩) (.inr (by show w.heap.size ≤ K; omega)) _) (p := ⟨b, 3, none⟩) (.inl rfl) _) (p := ⟨b, 4, none⟩) (.inl rfl) _) (p := ⟨b, 1, none⟩) (.inl rfl) _).drew
  have he6 : EnumAt w6 b .nilIface false i (.slice x.A x.m x.p) x.h (ptr q) t ver uni := by
    unfold EnumAt
    rw [hw6, heap_drew, heap_setCell_at, heap_setCell_at, heap_setCell_at, heap_setCell_ne _ b K _ _ hbK', heap_setCell_ne _ b K _ _ hbK', show wd.heap[b]? = _ from heap_below HE.out HBD.out]
    rfl
  have hk6 : w6.heap[K]? = some (.cells #[.slice x.A x.m x.p, .int .i64 x.h] 136 (0, 0)) := by
    rw [hw6, heap_drew, heap_setCell_ne _ K b _ _ hKb, heap_setCell_ne _ K b _ _ hKb, heap_setCell_ne _ K b _ _ hKb, heap_setCell_at, heap_setCell_at, HKD.out]
    rfl
  refine (HN.out w6 hc6 he6).mono ?_
  rintro y w7 ⟨rfl, he7, hc7⟩
  have hk7 := heap_chg hk6 hc7 hKb
  have k0 := cell_of_heap hk7 0
  have k1 := cell_of_heap hk7 1
  clear hw6 hk6 hk7
  go_wp2
  exact bodyPost_ret (v := .tuple #[.agg #[.slice x.A x.m x.p, .int .i64 x.h], .int .i64 x.n, .nilIface]) (by simp [results, Tryz.results147, go_sem, k0, k1]) rfl ⟨rfl, he7, hc6.trans hc7⟩

set_option maxRecDepth 100000 in
set_option maxHeartbeats 1000000 in
theorem Prev_at (b q i : Nat) (hit : Bool) (kv : Value) (kh : Int) (t : Nat) (ver : Int) (uni : Bool) (es : List XE) (rest : List Value) (nx pv : Value) (x : XE) (c : Int) (fi la r : Value) (w : World)
    (he : EnumAt w b .nilIface hit i kv kh (ptr q) t ver uni) (hq : PageAt w q es rest nx pv) (hi : es[i]? = some x) (ht : TreeW w t c fi la r ver) (kv1 : ∃ A m p, kv = .slice A m p) (R : Value) (i' : Nat) (q' : Value)
    (HN : Hid (∀ w1, Chg (fun k => k = b) w w1 → EnumAt w1 b .nilIface false i (.slice x.A x.m x.p) x.h (ptr q) t ver uni → Calls Tryz.prog 150 #[.pointer (some ⟨b, 0, none⟩)] w1
      fun y w' => y = .returned R ∧ EnumAt w' b R false i' (.slice x.A x.m x.p) x.h q' t ver uni ∧ Chg (fun k => k = b) w1 w')) :
    Calls Tryz.prog 148 #[.pointer (some ⟨b, 0, none⟩)] w
      fun y w' => y = .returned (.tuple #[.agg #[.slice x.A x.m x.p, .int .i64 x.h], .int .i64 x.n, .nilIface]) ∧ EnumAt w' b R false i' (.slice x.A x.m x.p) x.h q' t ver uni ∧ Chg (fun k => k = b) w w' := by
  have hle := hq.le
  have hin : i < es.length := (List.getElem?_eq_some_iff.1 hi).1
  obtain ⟨A, m, p, rfl⟩ := kv1
  have HE := Lib.hid he
  have HQ := Lib.hid hq
  have HT := Lib.hid ht
  have HI := Lib.hid hi
  have hg : ((es.length : Int) ≤ i) = False := by simp; omega
  have hi1 : (i : Int) < 129 := by omega
  have hi2 : (0 : Int) ≤ i := by omega
  have hvv : (ver != ver) = false := by simp
  have hcc : (w.alloc (.cells #[.slice none 0 0, .int .i64 0] 136)).heap[w.heap.size]? = some (.cells #[.slice none 0 0, .int .i64 0] 136 (0, 0)) := heap_new w _
  have HKA := Lib.hid hcc
  clear he hq ht hi hcc
  have c0 : w.cell? ⟨b, 0, none⟩ = some .nilIface := cell_of_heap (heap_below HE.out (Below.refl _ _)) 0
  have c1 : w.cell? ⟨b, 1, none⟩ = some (.bool hit) := cell_of_heap (heap_below HE.out (Below.refl _ _)) 1
  have c2 : w.cell? ⟨b, 2, none⟩ = some (.int .i64 i) := cell_of_heap (heap_below HE.out (Below.refl _ _)) 2
  have c3 : w.cell? ⟨b, 3, none⟩ = some (.slice A m p) := cell_of_heap (heap_below HE.out (Below.refl _ _)) 3
  have c4 : w.cell? ⟨b, 4, none⟩ = some (.int .i64 kh) := cell_of_heap (heap_below HE.out (Below.refl _ _)) 4
  have c5 : w.cell? ⟨b, 5, none⟩ = some (.pointer (some ⟨q, 0, none⟩)) := cell_of_heap (heap_below HE.out (Below.refl _ _)) 5
  have c6 : w.cell? ⟨b, 6, none⟩ = some (.pointer (some ⟨t, 0, none⟩)) := cell_of_heap (heap_below HE.out (Below.refl _ _)) 6
  have c7 : w.cell? ⟨b, 7, none⟩ = some (.int .i64 ver) := cell_of_heap (heap_below HE.out (Below.refl _ _)) 7
  have f1 : w.frozen? ⟨b, 1, none⟩ = false := free_of_heap (heap_below HE.out (Below.refl _ _)) 1
  have f3 : w.frozen? ⟨b, 3, none⟩ = false := free_of_heap (heap_below HE.out (Below.refl _ _)) 3
  have f4 : w.frozen? ⟨b, 4, none⟩ = false := free_of_heap (heap_below HE.out (Below.refl _ _)) 4
  have cq : w.cell? ⟨q, 0, none⟩ = some (.int .i64 es.length) := by rw [(HQ.out.below (Below.refl _ _)).cell]; rfl
  have ct : w.cell? ⟨t, 4, none⟩ = some (.int .i64 ver) := cell_of_heap (heap_below HT.out (Below.refl _ _)) 4
  have e0 : w.cell? ⟨q, 1 + i * 3, none⟩ = some (.slice x.A x.m x.p) := ((HQ.out.below (Below.refl _ _)).cell _).trans (pgL_at XE.cells 3 XE.three es rest [nx, pv] i 0 x _ HI.out (by omega) rfl)
  have e1 : w.cell? ⟨q, 1 + i * 3 + 1, none⟩ = some (.int .i64 x.h) := ((HQ.out.below (Below.refl _ _)).cell _).trans (pgL_at XE.cells 3 XE.three es rest [nx, pv] i 1 x _ HI.out (by omega) rfl)
  have e2 : w.cell? ⟨q, 1 + i * 3 + 2, none⟩ = some (.int .i64 x.n) := ((HQ.out.below (Below.refl _ _)).cell _).trans (pgL_at XE.cells 3 XE.three es rest [nx, pv] i 2 x _ HI.out (by omega) rfl)
  have lb : b < w.heap.size := lt_of_heap (heap_below HE.out (Below.refl _ _))
  have lq : q < w.heap.size := (HQ.out.below (Below.refl _ _)).lt
  have lt : t < w.heap.size := lt_of_heap (heap_below HT.out (Below.refl _ _))
  go_enter Tryz.func148, Tryz.ntmps148
  go_wp2_with fail
  obtain ⟨wa, hwa⟩ : ∃ wa, wa = w.alloc (.cells #[.slice none 0 0, .int .i64 0] 136) := ⟨_, rfl⟩
  rw [← hwa]
  have HBA := Lib.hid (show Below w.heap.size w wa by rw [hwa]; exact (Below.refl _ _).alloc (Nat.le_refl _) _)
  rw [← hwa] at HKA
  clear c0 c1 c2 c3 c4 c5 c6 c7 f1 f3 f4 cq ct e0 e1 e2 lb lq lt
  have c0 : wa.cell? ⟨b, 0, none⟩ = some .nilIface := cell_of_heap (heap_below HE.out HBA.out) 0
  have c1 : wa.cell? ⟨b, 1, none⟩ = some (.bool hit) := cell_of_heap (heap_below HE.out HBA.out) 1
  have c2 : wa.cell? ⟨b, 2, none⟩ = some (.int .i64 i) := cell_of_heap (heap_below HE.out HBA.out) 2
  have c3 : wa.cell? ⟨b, 3, none⟩ = some (.slice A m p) := cell_of_heap (heap_below HE.out HBA.out) 3
  have c4 : wa.cell? ⟨b, 4, none⟩ = some (.int .i64 kh) := cell_of_heap (heap_below HE.out HBA.out) 4
  have c5 : wa.cell? ⟨b, 5, none⟩ = some (.pointer (some ⟨q, 0, none⟩)) := cell_of_heap (heap_below HE.out HBA.out) 5
  have c6 : wa.cell? ⟨b, 6, none⟩ = some (.pointer (some ⟨t, 0, none⟩)) := cell_of_heap (heap_below HE.out HBA.out) 6
  have c7 : wa.cell? ⟨b, 7, none⟩ = some (.int .i64 ver) := cell_of_heap (heap_below HE.out HBA.out) 7
  have f1 : wa.frozen? ⟨b, 1, none⟩ = false := free_of_heap (heap_below HE.out HBA.out) 1
  have f3 : wa.frozen? ⟨b, 3, none⟩ = false := free_of_heap (heap_below HE.out HBA.out) 3
  have f4 : wa.frozen? ⟨b, 4, none⟩ = false := free_of_heap (heap_below HE.out HBA.out) 4
  have cq : wa.cell? ⟨q, 0, none⟩ = some (.int .i64 es.length) := by rw [(HQ.out.below HBA.out).cell]; rfl
  have ct : wa.cell? ⟨t, 4, none⟩ = some (.int .i64 ver) := cell_of_heap (heap_below HT.out HBA.out) 4
  have e0 : wa.cell? ⟨q, 1 + i * 3, none⟩ = some (.slice x.A x.m x.p) := ((HQ.out.below HBA.out).cell _).trans (pgL_at XE.cells 3 XE.three es rest [nx, pv] i 0 x _ HI.out (by omega) rfl)
  have e1 : wa.cell? ⟨q, 1 + i * 3 + 1, none⟩ = some (.int .i64 x.h) := ((HQ.out.below HBA.out).cell _).trans (pgL_at XE.cells 3 XE.three es rest [nx, pv] i 1 x _ HI.out (by omega) rfl)
  have e2 : wa.cell? ⟨q, 1 + i * 3 + 2, none⟩ = some (.int .i64 x.n) := ((HQ.out.below HBA.out).cell _).trans (pgL_at XE.cells 3 XE.three es rest [nx, pv] i 2 x _ HI.out (by omega) rfl)
  have lb : b < wa.heap.size := lt_of_heap (heap_below HE.out HBA.out)
  have lq : q < wa.heap.size := (HQ.out.below HBA.out).lt
  have lt : t < wa.heap.size := lt_of_heap (heap_below HT.out HBA.out)
  clear hwa
  go_still_tail 11, (by kernel_rfl)
  obtain ⟨wb, hwb⟩ : ∃ wb, wb = wa.drew := ⟨_, rfl⟩
  change wpList _ _ _ _ _ wa.drew
  rw [← hwb]
  have HBB := Lib.hid (show Below w.heap.size w wb by rw [hwb]; exact HBA.out.drew)
  have HKB := Lib.hid (show wb.heap[w.heap.size]? = some (.cells #[.slice none 0 0, .int .i64 0] 136 (0, 0)) by rw [hwb]; exact HKA.out)
  clear c0 c1 c2 c3 c4 c5 c6 c7 f1 f3 f4 cq ct e0 e1 e2 lb lq lt
  have c0 : wb.cell? ⟨b, 0, none⟩ = some .nilIface := cell_of_heap (heap_below HE.out HBB.out) 0
  have c1 : wb.cell? ⟨b, 1, none⟩ = some (.bool hit) := cell_of_heap (heap_below HE.out HBB.out) 1
  have c2 : wb.cell? ⟨b, 2, none⟩ = some (.int .i64 i) := cell_of_heap (heap_below HE.out HBB.out) 2
  have c3 : wb.cell? ⟨b, 3, none⟩ = some (.slice A m p) := cell_of_heap (heap_below HE.out HBB.out) 3
  have c4 : wb.cell? ⟨b, 4, none⟩ = some (.int .i64 kh) := cell_of_heap (heap_below HE.out HBB.out) 4
  have c5 : wb.cell? ⟨b, 5, none⟩ = some (.pointer (some ⟨q, 0, none⟩)) := cell_of_heap (heap_below HE.out HBB.out) 5
  have c6 : wb.cell? ⟨b, 6, none⟩ = some (.pointer (some ⟨t, 0, none⟩)) := cell_of_heap (heap_below HE.out HBB.out) 6
  have c7 : wb.cell? ⟨b, 7, none⟩ = some (.int .i64 ver) := cell_of_heap (heap_below HE.out HBB.out) 7
  have f1 : wb.frozen? ⟨b, 1, none⟩ = false := free_of_heap (heap_below HE.out HBB.out) 1
  have f3 : wb.frozen? ⟨b, 3, none⟩ = false := free_of_heap (heap_below HE.out HBB.out) 3
  have f4 : wb.frozen? ⟨b, 4, none⟩ = false := free_of_heap (heap_below HE.out HBB.out) 4
  have cq : wb.cell? ⟨q, 0, none⟩ = some (.int .i64 es.length) := by rw [(HQ.out.below HBB.out).cell]; rfl
  have ct : wb.cell? ⟨t, 4, none⟩ = some (.int .i64 ver) := cell_of_heap (heap_below HT.out HBB.out) 4
  have e0 : wb.cell? ⟨q, 1 + i * 3, none⟩ = some (.slice x.A x.m x.p) := ((HQ.out.below HBB.out).cell _).trans (pgL_at XE.cells 3 XE.three es rest [nx, pv] i 0 x _ HI.out (by omega) rfl)
  have e1 : wb.cell? ⟨q, 1 + i * 3 + 1, none⟩ = some (.int .i64 x.h) := ((HQ.out.below HBB.out).cell _).trans (pgL_at XE.cells 3 XE.three es rest [nx, pv] i 1 x _ HI.out (by omega) rfl)
  have e2 : wb.cell? ⟨q, 1 + i * 3 + 2, none⟩ = some (.int .i64 x.n) := ((HQ.out.below HBB.out).cell _).trans (pgL_at XE.cells 3 XE.three es rest [nx, pv] i 2 x _ HI.out (by omega) rfl)
  have lb : b < wb.heap.size := lt_of_heap (heap_below HE.out HBB.out)
  have lq : q < wb.heap.size := (HQ.out.below HBB.out).lt
  have lt : t < wb.heap.size := lt_of_heap (heap_below HT.out HBB.out)
  clear hwb
  go_wp2_with fail
  go_still_tail 11, (by kernel_rfl)
  obtain ⟨wc, hwc⟩ : ∃ wc, wc = wb.drew := ⟨_, rfl⟩
  change wpList _ _ _ _ _ wb.drew
  rw [← hwc]
  have HBC := Lib.hid (show Below w.heap.size w wc by rw [hwc]; exact HBB.out.drew)
  have HKC := Lib.hid (show wc.heap[w.heap.size]? = some (.cells #[.slice none 0 0, .int .i64 0] 136 (0, 0)) by rw [hwc]; exact HKB.out)
  clear c0 c1 c2 c3 c4 c5 c6 c7 f1 f3 f4 cq ct e0 e1 e2 lb lq lt
  have c0 : wc.cell? ⟨b, 0, none⟩ = some .nilIface := cell_of_heap (heap_below HE.out HBC.out) 0
  have c1 : wc.cell? ⟨b, 1, none⟩ = some (.bool hit) := cell_of_heap (heap_below HE.out HBC.out) 1
  have c2 : wc.cell? ⟨b, 2, none⟩ = some (.int .i64 i) := cell_of_heap (heap_below HE.out HBC.out) 2
  have c3 : wc.cell? ⟨b, 3, none⟩ = some (.slice A m p) := cell_of_heap (heap_below HE.out HBC.out) 3
  have c4 : wc.cell? ⟨b, 4, none⟩ = some (.int .i64 kh) := cell_of_heap (heap_below HE.out HBC.out) 4
  have c5 : wc.cell? ⟨b, 5, none⟩ = some (.pointer (some ⟨q, 0, none⟩)) := cell_of_heap (heap_below HE.out HBC.out) 5
  have c6 : wc.cell? ⟨b, 6, none⟩ = some (.pointer (some ⟨t, 0, none⟩)) := cell_of_heap (heap_below HE.out HBC.out) 6
  have c7 : wc.cell? ⟨b, 7, none⟩ = some (.int .i64 ver) := cell_of_heap (heap_below HE.out HBC.out) 7
  have f1 : wc.frozen? ⟨b, 1, none⟩ = false := free_of_heap (heap_below HE.out HBC.out) 1
  have f3 : wc.frozen? ⟨b, 3, none⟩ = false := free_of_heap (heap_below HE.out HBC.out) 3
  have f4 : wc.frozen? ⟨b, 4, none⟩ = false := free_of_heap (heap_below HE.out HBC.out) 4
  have cq : wc.cell? ⟨q, 0, none⟩ = some (.int .i64 es.length) := by rw [(HQ.out.below HBC.out).cell]; rfl
  have ct : wc.cell? ⟨t, 4, none⟩ = some (.int .i64 ver) := cell_of_heap (heap_below HT.out HBC.out) 4
  have e0 : wc.cell? ⟨q, 1 + i * 3, none⟩ = some (.slice x.A x.m x.p) := ((HQ.out.below HBC.out).cell _).trans (pgL_at XE.cells 3 XE.three es rest [nx, pv] i 0 x _ HI.out (by omega) rfl)
  have e1 : wc.cell? ⟨q, 1 + i * 3 + 1, none⟩ = some (.int .i64 x.h) := ((HQ.out.below HBC.out).cell _).trans (pgL_at XE.cells 3 XE.three es rest [nx, pv] i 1 x _ HI.out (by omega) rfl)
  have e2 : wc.cell? ⟨q, 1 + i * 3 + 2, none⟩ = some (.int .i64 x.n) := ((HQ.out.below HBC.out).cell _).trans (pgL_at XE.cells 3 XE.three es rest [nx, pv] i 2 x _ HI.out (by omega) rfl)
  have lb : b < wc.heap.size := lt_of_heap (heap_below HE.out HBC.out)
  have lq : q < wc.heap.size := (HQ.out.below HBC.out).lt
  have lt : t < wc.heap.size := lt_of_heap (heap_below HT.out HBC.out)
  clear hwc
  go_wp2_with fail
  go_region
  obtain ⟨K, hK⟩ : ∃ K, K = w.heap.size := ⟨_, rfl⟩
  obtain ⟨N, hN⟩ : ∃ N, N = wc.heap.size := ⟨_, rfl⟩
  obtain ⟨wd, hwd⟩ : ∃ wd, wd = (wc.alloc (.cells #[.slice x.A x.m x.p, .int .i64 x.h, .int .i64 x.n] 172)).drew := ⟨_, rfl⟩
  rw [← hwd, ← hK, ← hN]
  have HBD := Lib.hid (show Below w.heap.size w wd by rw [hwd]; exact (HBC.out.alloc HBC.out.size _).drew)
  have hkd : wd.heap[K]? = some (.cells #[.slice none 0 0, .int .i64 0] 136 (0, 0)) := by rw [hwd, hK]; exact heap_old HKC.out _
  have hnd : wd.heap[N]? = some (.cells #[.slice x.A x.m x.p, .int .i64 x.h, .int .i64 x.n] 172 (0, 0)) := by rw [hwd, hN]; exact heap_new wc _
  have hKN : K < N := by rw [hK, hN]; exact lt_of_heap HKC.out
  have hbK : b < K := by rw [hK]; exact lt_of_heap HE.out
  have HKK := Lib.hid hK
  clear c0 c1 c2 c3 c4 c5 c6 c7 f1 f3 f4 cq ct e0 e1 e2 lb lq lt
  have c0 : wd.cell? ⟨b, 0, none⟩ = some .nilIface := cell_of_heap (heap_below HE.out HBD.out) 0
  have c1 : wd.cell? ⟨b, 1, none⟩ = some (.bool hit) := cell_of_heap (heap_below HE.out HBD.out) 1
  have c2 : wd.cell? ⟨b, 2, none⟩ = some (.int .i64 i) := cell_of_heap (heap_below HE.out HBD.out) 2
  have c3 : wd.cell? ⟨b, 3, none⟩ = some (.slice A m p) := cell_of_heap (heap_below HE.out HBD.out) 3
  have c4 : wd.cell? ⟨b, 4, none⟩ = some (.int .i64 kh) := cell_of_heap (heap_below HE.out HBD.out) 4
  have c5 : wd.cell? ⟨b, 5, none⟩ = some (.pointer (some ⟨q, 0, none⟩)) := cell_of_heap (heap_below HE.out HBD.out) 5
  have c6 : wd.cell? ⟨b, 6, none⟩ = some (.pointer (some ⟨t, 0, none⟩)) := cell_of_heap (heap_below HE.out HBD.out) 6
  have c7 : wd.cell? ⟨b, 7, none⟩ = some (.int .i64 ver) := cell_of_heap (heap_below HE.out HBD.out) 7
  have f1 : wd.frozen? ⟨b, 1, none⟩ = false := free_of_heap (heap_below HE.out HBD.out) 1
  have f3 : wd.frozen? ⟨b, 3, none⟩ = false := free_of_heap (heap_below HE.out HBD.out) 3
  have f4 : wd.frozen? ⟨b, 4, none⟩ = false := free_of_heap (heap_below HE.out HBD.out) 4
  have cq : wd.cell? ⟨q, 0, none⟩ = some (.int .i64 es.length) := by rw [(HQ.out.below HBD.out).cell]; rfl
  have ct : wd.cell? ⟨t, 4, none⟩ = some (.int .i64 ver) := cell_of_heap (heap_below HT.out HBD.out) 4
  have e0 : wd.cell? ⟨q, 1 + i * 3, none⟩ = some (.slice x.A x.m x.p) := ((HQ.out.below HBD.out).cell _).trans (pgL_at XE.cells 3 XE.three es rest [nx, pv] i 0 x _ HI.out (by omega) rfl)
  have e1 : wd.cell? ⟨q, 1 + i * 3 + 1, none⟩ = some (.int .i64 x.h) := ((HQ.out.below HBD.out).cell _).trans (pgL_at XE.cells 3 XE.three es rest [nx, pv] i 1 x _ HI.out (by omega) rfl)
  have e2 : wd.cell? ⟨q, 1 + i * 3 + 2, none⟩ = some (.int .i64 x.n) := ((HQ.out.below HBD.out).cell _).trans (pgL_at XE.cells 3 XE.three es rest [nx, pv] i 2 x _ HI.out (by omega) rfl)
  have lb : b < wd.heap.size := lt_of_heap (heap_below HE.out HBD.out)
  have lq : q < wd.heap.size := (HQ.out.below HBD.out).lt
  have lt : t < wd.heap.size := lt_of_heap (heap_below HT.out HBD.out)
  have ck0 := cell_of_heap hkd 0
  have ck1 := cell_of_heap hkd 1
  have fk0 := free_of_heap hkd 0
  have fk1 := free_of_heap hkd 1
  have cn0 := cell_of_heap hnd 0
  have cn1 := cell_of_heap hnd 1
  have cn2 := cell_of_heap hnd 2
  have HKD := Lib.hid hkd
  clear hwd hK hN hkd hnd
  go_wp2_with fail
  go_region
  go_wp2_with fail
  obtain ⟨w6, hw6⟩ : ∃ w6, w6 = (((((wd.setCell ⟨K, 0, none⟩ (.slice x.A x.m x.p)).setCell ⟨K, 1, none⟩ (.int .i64 x.h)).setCell ⟨b, 3, none⟩ (.slice x.A x.m x.p)).setCell ⟨b, 4, none⟩ (.int .i64 x.h)).setCell ⟨b, 1, none⟩ (.bool false)).drew := ⟨_, rfl⟩
  rw [← hw6]
  have hKb : ¬ K = b := by omega
  have hbK' : ¬ b = K := by omega
  have hc6 : Chg (fun k => k = b) w w6 := by
    have hk := HKK.out
    rw [hw6]
    exact (Chg.setCell (Chg.setCell (Chg.setCell (Chg.setCell (Chg.setCell (Chg.of_below (S := fun k => k = b) HBD.out) (p := ⟨K, 0, none⟩) (.inr (by show w.heap.size ≤ K; omega)) _) (p := ⟨K, 1, none⟩) (.inr (by show w.heap.size ≤ K; omega)) _) (p := ⟨b, 3, none⟩) (.inl rfl) _) (p := ⟨b, 4, none⟩) (.inl rfl) _) (p := ⟨b, 1, none⟩) (.inl rfl) _).drew
  have he6 : EnumAt w6 b .nilIface false i (.slice x.A x.m x.p) x.h (ptr q) t ver uni := by
    unfold EnumAt
    rw [hw6, heap_drew, heap_setCell_at, heap_setCell_at, heap_setCell_at, heap_setCell_ne _ b K _ _ hbK', heap_setCell_ne _ b K _ _ hbK', show wd.heap[b]? = _ from heap_below HE.out HBD.out]
    rfl
  have hk6 : w6.heap[K]? = some (.cells #[.slice x.A x.m x.p, .int .i64 x.h] 136 (0, 0)) := by
    rw [hw6, heap_drew, heap_setCell_ne _ K b _ _ hKb, heap_setCell_ne _ K b _ _ hKb, heap_setCell_ne _ K b _ _ hKb, heap_setCell_at, heap_setCell_at, HKD.out]
    rfl
  refine (HN.out w6 hc6 he6).mono ?_
  rintro y w7 ⟨rfl, he7, hc7⟩
  have hk7 := heap_chg hk6 hc7 hKb
  have k0 := cell_of_heap hk7 0
  have k1 := cell_of_heap hk7 1
  clear hw6 hk6 hk7
  go_wp2
  exact bodyPost_ret (v := .tuple #[.agg #[.slice x.A x.m x.p, .int .i64 x.h], .int .i64 x.n, .nilIface]) (by simp [results, Tryz.results148, go_sem, k0, k1]) rfl ⟨rfl, he7, hc6.trans hc7⟩

end Go.Proofs.YtffgkocokkhahaaGreatDoor

/- (*xtree).overflow: a full page gives an entry to a neighbour, or is parted. -/
namespace Go.Proofs.YtffgkocokkhahaaGreatDoor
open Go.RowKit

/-- The tree has become one of these entries. -/
def GrowP (t : Nat) (L : List XE) (S : Nat → Prop) (w : World) (y : Ending) (w' : World) : Prop :=
  y = .returned (.tuple #[]) ∧ ∃ S', TreeAt w' t L S' ∧ Chg S w w' ∧ ∀ k, S' k → S k ∨ w.heap.size ≤ k

/-- What overflow has done before it looks at the neighbours. -/
theorem over_start {t : Nat} {c : Int} {fi la r : Value} {ver : Int} {w : World} (e : XE) (ht : TreeW w t c fi la r ver) :
    TreeW ((w.setCell ⟨t, 4, none⟩ (.int .i64 (wrap64 (ver + 1)))).alloc (.cells #[.slice e.A e.m e.p, .int .i64 e.h] 136)) t c fi la r (wrap64 (ver + 1)) ∧
    Chg (fun b => b = t) w ((w.setCell ⟨t, 4, none⟩ (.int .i64 (wrap64 (ver + 1)))).alloc (.cells #[.slice e.A e.m e.p, .int .i64 e.h] 136)) ∧
    ((w.setCell ⟨t, 4, none⟩ (.int .i64 (wrap64 (ver + 1)))).alloc (.cells #[.slice e.A e.m e.p, .int .i64 e.h] 136)).heap[w.heap.size]? = some (.cells #[.slice e.A e.m e.p, .int .i64 e.h] 136 (0, 0)) := by
  refine ⟨?_, ?_, ?_⟩
  · unfold TreeW
    rw [heap_alloc_ne _ _ _ (by simpa using lt_of_heap ht), heap_setCell_at, show w.heap[t]? = _ from ht]
    rfl
  · exact Chg.alloc (Chg.setCell (Chg.refl (fun b => b = t) w) (p := ⟨t, 4, none⟩) (.inl rfl) _) _
  · have h := heap_new (w.setCell ⟨t, 4, none⟩ (.int .i64 (wrap64 (ver + 1)))) (.cells #[.slice e.A e.m e.p, .int .i64 e.h] 136)
    simpa using h

/-- Two pages under a new root. -/
theorem below_al2 (w : World) (a c : Obj) : Below w.heap.size w ((w.alloc a).alloc c) := ((Below.refl _ _).alloc (Nat.le_refl _) _).alloc (by simp) _

theorem rooted_two {t q rb xb : Nat} {l1 l2 : List XE} {r1 r2 xr : List Value} {c : Int} {w : World} (ht : ∃ ver, TreeW w t c (ptr q) (ptr rb) (.iface 169 (ptr xb)) ver)
    (h1 : PageAt w q l1 r1 (ptr rb) (.pointer none)) (h2 : PageAt w rb l2 r2 (.pointer none) (ptr q)) (hx : RootAt w xb q [rb] xr) (hqr : ¬ q = rb)
    (s1 : 64 ≤ l1.length ∧ l1.length ≤ 128) (s2 : 64 ≤ l2.length ∧ l2.length ≤ 128) : Rooted w t xb [(q, l1), (rb, l2)] c :=
  ⟨ht, ⟨q, [rb], xr, rfl, hx⟩, ⟨⟨r1, h1⟩, ⟨r2, h2⟩, trivial⟩, by
    intro p hp
    simp at hp
    rcases hp with rfl | rfl
    · exact s1
    · exact s2, by simp [Blocks, hqr], by simp⟩

set_option maxRecDepth 100000 in
set_option maxHeartbeats 1000000 in
theorem over_lone (t q i : Nat) (es : List XE) (e : XE) (w : World) (h : Lone w t q es es.length) (hl : es.length = 128) (hi : i ≤ 128) :
    Calls Tryz.prog 86 #[.pointer (some ⟨t, 0, none⟩), .pointer none, .pointer (some ⟨q, 0, none⟩), .int .i64 (-1), .int .i64 i, .agg #[.slice e.A e.m e.p, .int .i64 e.h], .int .i64 e.n] w
      (GrowP t (es.take i ++ e :: es.drop i) (fun k => k = t ∨ k = q) w) := by
  have hne := h.ne
  obtain ⟨⟨ver, ht⟩, ⟨rest, hq⟩, _⟩ := h
  obtain ⟨ht1, hc1, hb1⟩ := over_start e ht
  have ct4 : w.cell? ⟨t, 4, none⟩ = some (.int .i64 ver) := cell_of_heap ht 4
  have ft4 : w.frozen? ⟨t, 4, none⟩ = false := free_of_heap ht 4
  have lt := lt_of_heap ht
  have HT1 := Lib.hid ht1
  have HC1 := Lib.hid hc1
  have HQ1 := Lib.hid (hq.chg hc1 (fun h => hne h.symm))
  have cb0 := cell_of_heap hb1 0
  have cb1 := cell_of_heap hb1 1
  have HL := Lib.hid hl
  have LQ := Lib.hid hq.lt
  clear ht hq ht1 hc1 hb1 hl
  go_enter Tryz.func86, Tryz.ntmps86
  go_wp2_with (first
    | (go_at_call 111; refine (siblings_none _).mono ?_; rintro y w' ⟨rfl, rfl⟩)
    | (go_at_call 114; refine (split_leaf t q i es _ _ e _ _ _ _ _ _ HQ1.out HT1.out hne hi HL.out (by omega) (by rw [HL.out]; omega)).mono ?_; rintro y w2 ⟨rfl, rb, xb, xr, hh, hx, hxn, hxr, hc2⟩))
  first | go_end0 | refine bodyPost_ret (results_none rfl _ _ _) rfl ?_
  obtain ⟨hnew, hver, l1, l2, r1, r2, hl12, a1, a2, a3, a4, hp1, hp2⟩ := hh
  have hqn : ¬ q = rb := by
    have h1 := LQ.out
    have h2 := HC1.out.size
    omega
  have hcount : ((es.take i ++ e :: es.drop i).length : Int) = es.length + 1 := by
    have := HL.out
    simp [List.length_take]
    omega
  have hroot : Rooted w2 t xb [(q, l1), (rb, l2)] ((ents [(q, l1), (rb, l2)]).length : Nat) := by
    have e1 : ents [(q, l1), (rb, l2)] = es.take i ++ e :: es.drop i := by rw [← hl12]; simp [ents]
    rw [e1, hcount]
    exact rooted_two hver hp1 hp2 hx hqn ⟨a1, by omega⟩ ⟨a3, by omega⟩
  have hat := TreeAt.many hroot
  have e1 : ents [(q, l1), (rb, l2)] = es.take i ++ e :: es.drop i := by rw [← hl12]; simp [ents]
  rw [e1] at hat
  refine ⟨rfl, _, hat, (HC1.out.mono (fun k _ h => .inl h)).trans hc2, fun k hk => ?_⟩
  have hs := HC1.out.size
  rcases hk with (hk | hk) | hk
  · exact .inl (.inl hk)
  · exact .inr (by omega)
  · simp [Blocks] at hk
    rcases hk with hk | hk
    · exact .inl (.inr hk)
    · exact .inr (by omega)

end Go.Proofs.YtffgkocokkhahaaGreatDoor

/- (*xtree).overflow under a root. PRINTED BY wip/tpl/gen_xr.py. -/
namespace Go.Proofs.YtffgkocokkhahaaGreatDoor
open Go.RowKit

set_option maxRecDepth 100000 in
set_option maxHeartbeats 1000000 in
theorem ov_room_any_any (t q x b0 k : Nat) (bs : List Nat) (es : List XE) (sq xr : List Value) (nq pq : Value) (e : XE) (c : Int) (fi la r : Value) (ver : Int) (w : World) (i : Nat) (lb : Nat) (ls : List XE) (sl : List Value) (nl pl : Value)
    (hq : PageAt w q es sq nq pq) (ht : TreeW w t c fi la r ver) (hx : RootAt w x b0 bs xr) (hk : k ≤ bs.length) (hbs : bs.length ≤ 250) (hl : es.length = 128) (c0 : 0 ≤ c) (c1 : c ≤ 2147483646) (hsl : sibL (b0 :: bs) k = some lb) (hlp : PageAt w lb ls sl nl pl) (hlq : ¬ lb = q) (hll : ls.length < 128) (hi : i ≤ 128) (hi1 : 1 ≤ i) :
    Calls Tryz.prog 86 #[.pointer (some ⟨t, 0, none⟩), .pointer (some ⟨x, 0, none⟩), .pointer (some ⟨q, 0, none⟩), .int .i64 k, .int .i64 i, .agg #[.slice e.A e.m e.p, .int .i64 e.h], .int .i64 e.n] w
      (fun y w' => y = .returned (.tuple #[]) ∧ (∃ s, PageAt w' lb (ls ++ es.take 1) s nl pl) ∧ (∃ s, PageAt w' q ((es.drop 1).take (i - 1) ++ e :: (es.drop 1).drop (i - 1)) s nq pq) ∧ (∃ v, TreeW w' t (c + 1) fi la r v) ∧ Chg (fun b => b = t ∨ b = lb ∨ b = q) w w') := by
  have hqt := tag_ne hq.heap ht (by decide)
  have hxt := tag_ne hx.heap ht (by decide)
  have hxq := tag_ne hx.heap hq.heap (by decide)
  have htq : ¬ t = q := fun h => hqt h.symm
  have hlt := tag_ne hlp.heap ht (by decide)
  obtain ⟨ht1, hc1, hb1⟩ := over_start e ht
  have ct4 : w.cell? ⟨t, 4, none⟩ = some (.int .i64 ver) := cell_of_heap ht 4
  have ft4 : w.frozen? ⟨t, 4, none⟩ = false := free_of_heap ht 4
  have lt := lt_of_heap ht
  have HT1 := Lib.hid ht1
  have HC1 := Lib.hid hc1
  have HQ1 := Lib.hid (hq.chg hc1 hqt)
  have HX1 := Lib.hid (hx.chg hc1 hxt)
  have HBK := Lib.hid hb1
  have HL1 := Lib.hid (hlp.chg hc1 hlt)
  have cl0 : ((w.setCell ⟨t, 4, none⟩ (.int .i64 (wrap64 (ver + 1)))).alloc (.cells #[.slice e.A e.m e.p, .int .i64 e.h] 136)).cell? ⟨lb, 0, none⟩ = some (.int .i64 ls.length) := by rw [HL1.out.cell]; rfl
  have hlc : ((ls.length : Int) < 128) = True := by simp; omega
  have cb0 := cell_of_heap hb1 0
  have cb1 := cell_of_heap hb1 1
  have HL := Lib.hid hl
  have LQ := Lib.hid hq.lt
  have LB := Lib.hid (lt_of_heap hb1)
  have hsib := fun w' (h : RootAt w' x b0 bs xr) => siblings_some x b0 bs xr k w' h hk (by omega)
  rw [hsl, show pgPtr (some lb) = .pointer (some ⟨lb, 0, none⟩) from rfl] at hsib
  obtain ⟨RV, hRV⟩ : ∃ RV, pgPtr (sibR (b0 :: bs) k) = RV := ⟨_, rfl⟩
  rw [hRV] at hsib
  have HS := Lib.hid hsib
  clear hsib hsl ht hq ht1 hc1 hb1 hl hx hlp hRV
  obtain ⟨j, hj⟩ : ∃ j, j = i - 1 := ⟨_, rfl⟩
  have hj1 : (i : Int) - 1 = ↑j := by omega
  rw [← hj]
  have hj2 : j ≤ 127 := by omega
  clear hj
  have hbl : ¬ w.heap.size = lb := fun h => by have h1 := HBK.out; rw [h, HL1.out.heap] at h1; injection h1 with h1; injection h1 with _ h1; exact absurd h1 (by decide)
  have hbq : ¬ w.heap.size = q := fun h => by have := LQ.out; omega
  go_enter Tryz.func86, Tryz.ntmps86
  go_wp2_with (first | (go_at_call 111; refine (HS.out _ HX1.out).mono ?_; rintro y w' ⟨rfl, rfl⟩) | (go_at_call 112; refine (mvL_any lb q 1 ls es _ _ _ _ _ _ _ HL1.out HQ1.out hlq (by rw [HL.out]; omega) (by omega) (by omega) (by rw [HL.out]; omega)).mono ?_; rintro y w2 ⟨rfl, ⟨s1, hp1⟩, ⟨s2, hp2⟩, hc2⟩; have HP1 := Lib.hid hp1; have HP2 := Lib.hid hp2; have HT2 := Lib.hid (HT1.out.chg hc2 (by rintro (h | h); exact hlt h.symm; exact htq h)); have hb2 := heap_chg HBK.out hc2 (by have := LQ.out; have := HL1.out.lt; rintro (h | h); exact hbl h; exact hbq h); have db0 := cell_of_heap hb2 0; have db1 := cell_of_heap hb2 1) | (go_at_call 85; refine (insert_any t q j (es.drop 1) _ _ _ e c fi la r _ _ HP2.out HT2.out htq (by rw [List.length_drop, HL.out]; omega) (by rw [List.length_drop, HL.out]; omega) c0 (by omega)).mono ?_; rintro y w3 ⟨rfl, hp3, ht3, hc3⟩))
  first | go_end0 | refine bodyPost_ret (results_none rfl _ _ _) rfl ?_
  exact ⟨rfl, ⟨_, HP1.out.chg hc3 (by rintro (h | h); exact hlt h; exact hlq h)⟩, ⟨_, hp3⟩, ht3, ((HC1.out.mono (T := fun b => b = t ∨ b = lb ∨ b = q) (fun k _ h => .inl h)).next hc2 (fun k _ h => .inr h)).next hc3 (fun k _ h => by rcases h with h | h; exact .inl h; exact .inr (.inr h))⟩

set_option maxRecDepth 100000 in
set_option maxHeartbeats 1000000 in
theorem ov_none_room_lt (t q x b0 k : Nat) (bs : List Nat) (es : List XE) (sq xr : List Value) (nq pq : Value) (e : XE) (c : Int) (fi la r : Value) (ver : Int) (w : World) (i : Nat) (rb : Nat) (rs : List XE) (sr : List Value) (nr pr : Value)
    (hq : PageAt w q es sq nq pq) (ht : TreeW w t c fi la r ver) (hx : RootAt w x b0 bs xr) (hk : k ≤ bs.length) (hbs : bs.length ≤ 250) (hl : es.length = 128) (c0 : 0 ≤ c) (c1 : c ≤ 2147483646) (hsl : sibL (b0 :: bs) k = none) (hsr : sibR (b0 :: bs) k = some rb) (hrp : PageAt w rb rs sr nr pr) (hrq : ¬ rb = q) (hrl : rs.length < 128) (hi : i < 128) :
    Calls Tryz.prog 86 #[.pointer (some ⟨t, 0, none⟩), .pointer (some ⟨x, 0, none⟩), .pointer (some ⟨q, 0, none⟩), .int .i64 k, .int .i64 i, .agg #[.slice e.A e.m e.p, .int .i64 e.h], .int .i64 e.n] w
      (fun y w' => y = .returned (.tuple #[]) ∧ (∃ s, PageAt w' q ((es.take 127).take i ++ e :: (es.take 127).drop i) s nq pq) ∧ (∃ s, PageAt w' rb (es.drop 127 ++ rs) s nr pr) ∧ (∃ v, TreeW w' t (c + 1) fi la r v) ∧ Chg (fun b => b = t ∨ b = q ∨ b = rb) w w') := by
  have hqt := tag_ne hq.heap ht (by decide)
  have hxt := tag_ne hx.heap ht (by decide)
  have hxq := tag_ne hx.heap hq.heap (by decide)
  have htq : ¬ t = q := fun h => hqt h.symm
  have hrt := tag_ne hrp.heap ht (by decide)
  have hxr := tag_ne hx.heap hrp.heap (by decide)
  obtain ⟨ht1, hc1, hb1⟩ := over_start e ht
  have ct4 : w.cell? ⟨t, 4, none⟩ = some (.int .i64 ver) := cell_of_heap ht 4
  have ft4 : w.frozen? ⟨t, 4, none⟩ = false := free_of_heap ht 4
  have lt := lt_of_heap ht
  have HT1 := Lib.hid ht1
  have HC1 := Lib.hid hc1
  have HQ1 := Lib.hid (hq.chg hc1 hqt)
  have HX1 := Lib.hid (hx.chg hc1 hxt)
  have HBK := Lib.hid hb1
  have HR1 := Lib.hid (hrp.chg hc1 hrt)
  have cr0 : ((w.setCell ⟨t, 4, none⟩ (.int .i64 (wrap64 (ver + 1)))).alloc (.cells #[.slice e.A e.m e.p, .int .i64 e.h] 136)).cell? ⟨rb, 0, none⟩ = some (.int .i64 rs.length) := by rw [HR1.out.cell]; rfl
  have hrc : ((rs.length : Int) < 128) = True := by simp; omega
  have cb0 := cell_of_heap hb1 0
  have cb1 := cell_of_heap hb1 1
  have HL := Lib.hid hl
  have LQ := Lib.hid hq.lt
  have LB := Lib.hid (lt_of_heap hb1)
  have hsib := fun w' (h : RootAt w' x b0 bs xr) => siblings_some x b0 bs xr k w' h hk (by omega)
  rw [hsl, show pgPtr none = .pointer none from rfl] at hsib
  rw [hsr, show pgPtr (some rb) = .pointer (some ⟨rb, 0, none⟩) from rfl] at hsib
  have HS := Lib.hid hsib
  clear hsib hsl ht hq ht1 hc1 hb1 hl hx hrp hsr
  have hic : (i : Int) < 128 := by omega
  have hbq : ¬ w.heap.size = q := fun h => by have := LQ.out; omega
  have hbr : ¬ w.heap.size = rb := fun h => by have h1 := HBK.out; rw [h, HR1.out.heap] at h1; injection h1 with h1; injection h1 with _ h1; exact absurd h1 (by decide)
  go_enter Tryz.func86, Tryz.ntmps86
  go_wp2_with (first | (go_at_call 111; refine (HS.out _ HX1.out).mono ?_; rintro y w' ⟨rfl, rfl⟩) | (go_at_call 113; refine (mvR_any q rb 1 es rs _ _ _ _ _ _ _ HQ1.out HR1.out (fun h => hrq h.symm) (by rw [HL.out]; omega) (by omega) (by rw [HL.out]; omega)).mono ?_; rintro y w2 ⟨rfl, ⟨s1, hp1⟩, ⟨s2, hp2⟩, hc2⟩; rw [HL.out] at hp1 hp2; have HP1 := Lib.hid hp1; have HP2 := Lib.hid hp2; have HT2 := Lib.hid (HT1.out.chg hc2 (by rintro (h | h); exact htq h; exact hrt h.symm)); have hb2 := heap_chg HBK.out hc2 (by rintro (h | h); exact hbq h; exact hbr h); have db0 := cell_of_heap hb2 0; have db1 := cell_of_heap hb2 1) | (go_at_call 85; refine (insert_any t q i (es.take 127) _ _ _ e c fi la r _ _ HP1.out HT2.out htq (by rw [List.length_take, HL.out]; omega) (by rw [List.length_take, HL.out]; omega) c0 (by omega)).mono ?_; rintro y w3 ⟨rfl, hp3, ht3, hc3⟩))
  first | go_end0 | refine bodyPost_ret (results_none rfl _ _ _) rfl ?_
  exact ⟨rfl, ⟨_, hp3⟩, ⟨_, HP2.out.chg hc3 (by rintro (h | h); exact hrt h; exact hrq h)⟩, ht3, ((HC1.out.mono (T := fun b => b = t ∨ b = q ∨ b = rb) (fun k _ h => .inl h)).next hc2 (fun k _ h => .inr h)).next hc3 (fun k _ h => by rcases h with h | h; exact .inl h; exact .inr (.inl h))⟩

set_option maxRecDepth 100000 in
set_option maxHeartbeats 1000000 in
theorem ov_full_room_lt (t q x b0 k : Nat) (bs : List Nat) (es : List XE) (sq xr : List Value) (nq pq : Value) (e : XE) (c : Int) (fi la r : Value) (ver : Int) (w : World) (i : Nat) (lb : Nat) (ls : List XE) (sl : List Value) (nl pl : Value) (rb : Nat) (rs : List XE) (sr : List Value) (nr pr : Value)
    (hq : PageAt w q es sq nq pq) (ht : TreeW w t c fi la r ver) (hx : RootAt w x b0 bs xr) (hk : k ≤ bs.length) (hbs : bs.length ≤ 250) (hl : es.length = 128) (c0 : 0 ≤ c) (c1 : c ≤ 2147483646) (hsl : sibL (b0 :: bs) k = some lb) (hlp : PageAt w lb ls sl nl pl) (hll : ls.length = 128) (hsr : sibR (b0 :: bs) k = some rb) (hrp : PageAt w rb rs sr nr pr) (hrq : ¬ rb = q) (hrl : rs.length < 128) (hi : i < 128) :
    Calls Tryz.prog 86 #[.pointer (some ⟨t, 0, none⟩), .pointer (some ⟨x, 0, none⟩), .pointer (some ⟨q, 0, none⟩), .int .i64 k, .int .i64 i, .agg #[.slice e.A e.m e.p, .int .i64 e.h], .int .i64 e.n] w
      (fun y w' => y = .returned (.tuple #[]) ∧ (∃ s, PageAt w' q ((es.take 127).take i ++ e :: (es.take 127).drop i) s nq pq) ∧ (∃ s, PageAt w' rb (es.drop 127 ++ rs) s nr pr) ∧ (∃ v, TreeW w' t (c + 1) fi la r v) ∧ Chg (fun b => b = t ∨ b = q ∨ b = rb) w w') := by
  have hqt := tag_ne hq.heap ht (by decide)
  have hxt := tag_ne hx.heap ht (by decide)
  have hxq := tag_ne hx.heap hq.heap (by decide)
  have htq : ¬ t = q := fun h => hqt h.symm
  have hlt := tag_ne hlp.heap ht (by decide)
  have hrt := tag_ne hrp.heap ht (by decide)
  have hxr := tag_ne hx.heap hrp.heap (by decide)
  obtain ⟨ht1, hc1, hb1⟩ := over_start e ht
  have ct4 : w.cell? ⟨t, 4, none⟩ = some (.int .i64 ver) := cell_of_heap ht 4
  have ft4 : w.frozen? ⟨t, 4, none⟩ = false := free_of_heap ht 4
  have lt := lt_of_heap ht
  have HT1 := Lib.hid ht1
  have HC1 := Lib.hid hc1
  have HQ1 := Lib.hid (hq.chg hc1 hqt)
  have HX1 := Lib.hid (hx.chg hc1 hxt)
  have HBK := Lib.hid hb1
  have HL1 := Lib.hid (hlp.chg hc1 hlt)
  have cl0 : ((w.setCell ⟨t, 4, none⟩ (.int .i64 (wrap64 (ver + 1)))).alloc (.cells #[.slice e.A e.m e.p, .int .i64 e.h] 136)).cell? ⟨lb, 0, none⟩ = some (.int .i64 ls.length) := by rw [HL1.out.cell]; rfl
  have hlc : ((ls.length : Int) < 128) = False := by simp; omega
  have HR1 := Lib.hid (hrp.chg hc1 hrt)
  have cr0 : ((w.setCell ⟨t, 4, none⟩ (.int .i64 (wrap64 (ver + 1)))).alloc (.cells #[.slice e.A e.m e.p, .int .i64 e.h] 136)).cell? ⟨rb, 0, none⟩ = some (.int .i64 rs.length) := by rw [HR1.out.cell]; rfl
  have hrc : ((rs.length : Int) < 128) = True := by simp; omega
  have cb0 := cell_of_heap hb1 0
  have cb1 := cell_of_heap hb1 1
  have HL := Lib.hid hl
  have LQ := Lib.hid hq.lt
  have LB := Lib.hid (lt_of_heap hb1)
  have hsib := fun w' (h : RootAt w' x b0 bs xr) => siblings_some x b0 bs xr k w' h hk (by omega)
  rw [hsl, show pgPtr (some lb) = .pointer (some ⟨lb, 0, none⟩) from rfl] at hsib
  rw [hsr, show pgPtr (some rb) = .pointer (some ⟨rb, 0, none⟩) from rfl] at hsib
  have HS := Lib.hid hsib
  clear hsib hsl ht hq ht1 hc1 hb1 hl hx hlp hrp hsr
  have hic : (i : Int) < 128 := by omega
  have hbq : ¬ w.heap.size = q := fun h => by have := LQ.out; omega
  have hbr : ¬ w.heap.size = rb := fun h => by have h1 := HBK.out; rw [h, HR1.out.heap] at h1; injection h1 with h1; injection h1 with _ h1; exact absurd h1 (by decide)
  go_enter Tryz.func86, Tryz.ntmps86
  go_wp2_with (first | (go_at_call 111; refine (HS.out _ HX1.out).mono ?_; rintro y w' ⟨rfl, rfl⟩) | (go_at_call 113; refine (mvR_any q rb 1 es rs _ _ _ _ _ _ _ HQ1.out HR1.out (fun h => hrq h.symm) (by rw [HL.out]; omega) (by omega) (by rw [HL.out]; omega)).mono ?_; rintro y w2 ⟨rfl, ⟨s1, hp1⟩, ⟨s2, hp2⟩, hc2⟩; rw [HL.out] at hp1 hp2; have HP1 := Lib.hid hp1; have HP2 := Lib.hid hp2; have HT2 := Lib.hid (HT1.out.chg hc2 (by rintro (h | h); exact htq h; exact hrt h.symm)); have hb2 := heap_chg HBK.out hc2 (by rintro (h | h); exact hbq h; exact hbr h); have db0 := cell_of_heap hb2 0; have db1 := cell_of_heap hb2 1) | (go_at_call 85; refine (insert_any t q i (es.take 127) _ _ _ e c fi la r _ _ HP1.out HT2.out htq (by rw [List.length_take, HL.out]; omega) (by rw [List.length_take, HL.out]; omega) c0 (by omega)).mono ?_; rintro y w3 ⟨rfl, hp3, ht3, hc3⟩))
  first | go_end0 | refine bodyPost_ret (results_none rfl _ _ _) rfl ?_
  exact ⟨rfl, ⟨_, hp3⟩, ⟨_, HP2.out.chg hc3 (by rintro (h | h); exact hrt h; exact hrq h)⟩, ht3, ((HC1.out.mono (T := fun b => b = t ∨ b = q ∨ b = rb) (fun k _ h => .inl h)).next hc2 (fun k _ h => .inr h)).next hc3 (fun k _ h => by rcases h with h | h; exact .inl h; exact .inr (.inl h))⟩

set_option maxRecDepth 100000 in
set_option maxHeartbeats 1000000 in
theorem ov_none_room_eq (t q x b0 k : Nat) (bs : List Nat) (es : List XE) (sq xr : List Value) (nq pq : Value) (e : XE) (c : Int) (fi la r : Value) (ver : Int) (w : World) (i : Nat) (rb : Nat) (rs : List XE) (sr : List Value) (nr pr : Value)
    (hq : PageAt w q es sq nq pq) (ht : TreeW w t c fi la r ver) (hx : RootAt w x b0 bs xr) (hk : k ≤ bs.length) (hbs : bs.length ≤ 250) (hl : es.length = 128) (c0 : 0 ≤ c) (c1 : c ≤ 2147483646) (hsl : sibL (b0 :: bs) k = none) (hsr : sibR (b0 :: bs) k = some rb) (hrp : PageAt w rb rs sr nr pr) (hrl : rs.length < 128) (hi : i = 128) :
    Calls Tryz.prog 86 #[.pointer (some ⟨t, 0, none⟩), .pointer (some ⟨x, 0, none⟩), .pointer (some ⟨q, 0, none⟩), .int .i64 k, .int .i64 i, .agg #[.slice e.A e.m e.p, .int .i64 e.h], .int .i64 e.n] w
      (fun y w' => y = .returned (.tuple #[]) ∧ (∃ s, PageAt w' rb (e :: rs) s nr pr) ∧ (∃ v, TreeW w' t (c + 1) fi la r v) ∧ Chg (fun b => b = t ∨ b = rb) w w') := by
  have hqt := tag_ne hq.heap ht (by decide)
  have hxt := tag_ne hx.heap ht (by decide)
  have hxq := tag_ne hx.heap hq.heap (by decide)
  have htq : ¬ t = q := fun h => hqt h.symm
  have hrt := tag_ne hrp.heap ht (by decide)
  have hxr := tag_ne hx.heap hrp.heap (by decide)
  obtain ⟨ht1, hc1, hb1⟩ := over_start e ht
  have ct4 : w.cell? ⟨t, 4, none⟩ = some (.int .i64 ver) := cell_of_heap ht 4
  have ft4 : w.frozen? ⟨t, 4, none⟩ = false := free_of_heap ht 4
  have lt := lt_of_heap ht
  have HT1 := Lib.hid ht1
  have HC1 := Lib.hid hc1
  have HQ1 := Lib.hid (hq.chg hc1 hqt)
  have HX1 := Lib.hid (hx.chg hc1 hxt)
  have HBK := Lib.hid hb1
  have HR1 := Lib.hid (hrp.chg hc1 hrt)
  have cr0 : ((w.setCell ⟨t, 4, none⟩ (.int .i64 (wrap64 (ver + 1)))).alloc (.cells #[.slice e.A e.m e.p, .int .i64 e.h] 136)).cell? ⟨rb, 0, none⟩ = some (.int .i64 rs.length) := by rw [HR1.out.cell]; rfl
  have hrc : ((rs.length : Int) < 128) = True := by simp; omega
  have cb0 := cell_of_heap hb1 0
  have cb1 := cell_of_heap hb1 1
  have HL := Lib.hid hl
  have LQ := Lib.hid hq.lt
  have LB := Lib.hid (lt_of_heap hb1)
  have hsib := fun w' (h : RootAt w' x b0 bs xr) => siblings_some x b0 bs xr k w' h hk (by omega)
  rw [hsl, show pgPtr none = .pointer none from rfl] at hsib
  rw [hsr, show pgPtr (some rb) = .pointer (some ⟨rb, 0, none⟩) from rfl] at hsib
  have HS := Lib.hid hsib
  clear hsib hsl ht hq ht1 hc1 hb1 hl hx hrp hsr
  have hic : ((i : Int) < 128) = False := by simp; omega
  have hbq : ¬ w.heap.size = q := fun h => by have := LQ.out; omega
  have hbr : ¬ w.heap.size = rb := fun h => by have h1 := HBK.out; rw [h, HR1.out.heap] at h1; injection h1 with h1; injection h1 with _ h1; exact absurd h1 (by decide)
  go_enter Tryz.func86, Tryz.ntmps86
  go_wp2_with (first | (go_at_call 111; refine (HS.out _ HX1.out).mono ?_; rintro y w' ⟨rfl, rfl⟩) | (go_at_call 85; refine (insert_any t rb 0 rs _ _ _ e c fi la r _ _ HR1.out HT1.out (fun h => hrt h.symm) (by omega) (by omega) c0 (by omega)).mono ?_; rintro y w3 ⟨rfl, hp3, ht3, hc3⟩))
  first | go_end0 | refine bodyPost_ret (results_none rfl _ _ _) rfl ?_
  exact ⟨rfl, ⟨_, hp3⟩, ht3, (HC1.out.mono (T := fun b => b = t ∨ b = rb) (fun k _ h => .inl h)).next hc3 (fun k _ h => h)⟩

set_option maxRecDepth 100000 in
set_option maxHeartbeats 1000000 in
theorem ov_full_room_eq (t q x b0 k : Nat) (bs : List Nat) (es : List XE) (sq xr : List Value) (nq pq : Value) (e : XE) (c : Int) (fi la r : Value) (ver : Int) (w : World) (i : Nat) (lb : Nat) (ls : List XE) (sl : List Value) (nl pl : Value) (rb : Nat) (rs : List XE) (sr : List Value) (nr pr : Value)
    (hq : PageAt w q es sq nq pq) (ht : TreeW w t c fi la r ver) (hx : RootAt w x b0 bs xr) (hk : k ≤ bs.length) (hbs : bs.length ≤ 250) (hl : es.length = 128) (c0 : 0 ≤ c) (c1 : c ≤ 2147483646) (hsl : sibL (b0 :: bs) k = some lb) (hlp : PageAt w lb ls sl nl pl) (hll : ls.length = 128) (hsr : sibR (b0 :: bs) k = some rb) (hrp : PageAt w rb rs sr nr pr) (hrl : rs.length < 128) (hi : i = 128) :
    Calls Tryz.prog 86 #[.pointer (some ⟨t, 0, none⟩), .pointer (some ⟨x, 0, none⟩), .pointer (some ⟨q, 0, none⟩), .int .i64 k, .int .i64 i, .agg #[.slice e.A e.m e.p, .int .i64 e.h], .int .i64 e.n] w
      (fun y w' => y = .returned (.tuple #[]) ∧ (∃ s, PageAt w' rb (e :: rs) s nr pr) ∧ (∃ v, TreeW w' t (c + 1) fi la r v) ∧ Chg (fun b => b = t ∨ b = rb) w w') := by
  have hqt := tag_ne hq.heap ht (by decide)
  have hxt := tag_ne hx.heap ht (by decide)
  have hxq := tag_ne hx.heap hq.heap (by decide)
  have htq : ¬ t = q := fun h => hqt h.symm
  have hlt := tag_ne hlp.heap ht (by decide)
  have hrt := tag_ne hrp.heap ht (by decide)
  have hxr := tag_ne hx.heap hrp.heap (by decide)
  obtain ⟨ht1, hc1, hb1⟩ := over_start e ht
  have ct4 : w.cell? ⟨t, 4, none⟩ = some (.int .i64 ver) := cell_of_heap ht 4
  have ft4 : w.frozen? ⟨t, 4, none⟩ = false := free_of_heap ht 4
  have lt := lt_of_heap ht
  have HT1 := Lib.hid ht1
  have HC1 := Lib.hid hc1
  have HQ1 := Lib.hid (hq.chg hc1 hqt)
  have HX1 := Lib.hid (hx.chg hc1 hxt)
  have HBK := Lib.hid hb1
  have HL1 := Lib.hid (hlp.chg hc1 hlt)
  have cl0 : ((w.setCell ⟨t, 4, none⟩ (.int .i64 (wrap64 (ver + 1)))).alloc (.cells #[.slice e.A e.m e.p, .int .i64 e.h] 136)).cell? ⟨lb, 0, none⟩ = some (.int .i64 ls.length) := by rw [HL1.out.cell]; rfl
  have hlc : ((ls.length : Int) < 128) = False := by simp; omega
  have HR1 := Lib.hid (hrp.chg hc1 hrt)
  have cr0 : ((w.setCell ⟨t, 4, none⟩ (.int .i64 (wrap64 (ver + 1)))).alloc (.cells #[.slice e.A e.m e.p, .int .i64 e.h] 136)).cell? ⟨rb, 0, none⟩ = some (.int .i64 rs.length) := by rw [HR1.out.cell]; rfl
  have hrc : ((rs.length : Int) < 128) = True := by simp; omega
  have cb0 := cell_of_heap hb1 0
  have cb1 := cell_of_heap hb1 1
  have HL := Lib.hid hl
  have LQ := Lib.hid hq.lt
  have LB := Lib.hid (lt_of_heap hb1)
  have hsib := fun w' (h : RootAt w' x b0 bs xr) => siblings_some x b0 bs xr k w' h hk (by omega)
  rw [hsl, show pgPtr (some lb) = .pointer (some ⟨lb, 0, none⟩) from rfl] at hsib
  rw [hsr, show pgPtr (some rb) = .pointer (some ⟨rb, 0, none⟩) from rfl] at hsib
  have HS := Lib.hid hsib
  clear hsib hsl ht hq ht1 hc1 hb1 hl hx hlp hrp hsr
  have hic : ((i : Int) < 128) = False := by simp; omega
  have hbq : ¬ w.heap.size = q := fun h => by have := LQ.out; omega
  have hbr : ¬ w.heap.size = rb := fun h => by have h1 := HBK.out; rw [h, HR1.out.heap] at h1; injection h1 with h1; injection h1 with _ h1; exact absurd h1 (by decide)
  go_enter Tryz.func86, Tryz.ntmps86
  go_wp2_with (first | (go_at_call 111; refine (HS.out _ HX1.out).mono ?_; rintro y w' ⟨rfl, rfl⟩) | (go_at_call 85; refine (insert_any t rb 0 rs _ _ _ e c fi la r _ _ HR1.out HT1.out (fun h => hrt h.symm) (by omega) (by omega) c0 (by omega)).mono ?_; rintro y w3 ⟨rfl, hp3, ht3, hc3⟩))
  first | go_end0 | refine bodyPost_ret (results_none rfl _ _ _) rfl ?_
  exact ⟨rfl, ⟨_, hp3⟩, ht3, (HC1.out.mono (T := fun b => b = t ∨ b = rb) (fun k _ h => .inl h)).next hc3 (fun k _ h => h)⟩

set_option maxRecDepth 100000 in
set_option maxHeartbeats 1000000 in
theorem ov_none_full_any (t q x b0 k : Nat) (bs : List Nat) (es : List XE) (sq xr : List Value) (pq : Value) (e : XE) (c : Int) (fi la r : Value) (ver : Int) (w : World) (i : Nat) (rb : Nat) (rs : List XE) (sr : List Value) (nr : Value)
    (hq : PageAt w q es sq (.pointer (some ⟨rb, 0, none⟩)) pq) (ht : TreeW w t c fi la r ver) (hx : RootAt w x b0 bs xr) (hk : k ≤ bs.length) (hbs : bs.length ≤ 250) (hl : es.length = 128) (c0 : 0 ≤ c) (c1 : c ≤ 2147483646) (hsl : sibL (b0 :: bs) k = none) (hsr : sibR (b0 :: bs) k = some rb) (hrp : PageAt w rb rs sr nr (.pointer (some ⟨q, 0, none⟩))) (hrq : ¬ rb = q) (hrl : rs.length = 128) (hi : i ≤ 128) :
    Calls Tryz.prog 86 #[.pointer (some ⟨t, 0, none⟩), .pointer (some ⟨x, 0, none⟩), .pointer (some ⟨q, 0, none⟩), .int .i64 k, .int .i64 i, .agg #[.slice e.A e.m e.p, .int .i64 e.h], .int .i64 e.n] w
      (fun y w' => y = .returned (.tuple #[]) ∧ ∃ nb s, Halves w w' t q es i e (.pointer (some ⟨rb, 0, none⟩)) pq c fi nb la r ∧ RootAt w' x b0 (bs.take k ++ nb :: bs.drop k) s ∧ PageAt w' rb rs sr nr (.pointer (some ⟨nb, 0, none⟩)) ∧ Chg (fun b => (b = t ∨ b = q ∨ b = rb) ∨ b = x) w w') := by
  have hqt := tag_ne hq.heap ht (by decide)
  have hxt := tag_ne hx.heap ht (by decide)
  have hxq := tag_ne hx.heap hq.heap (by decide)
  have htq : ¬ t = q := fun h => hqt h.symm
  have hrt := tag_ne hrp.heap ht (by decide)
  have hxr := tag_ne hx.heap hrp.heap (by decide)
  obtain ⟨ht1, hc1, hb1⟩ := over_start e ht
  have ct4 : w.cell? ⟨t, 4, none⟩ = some (.int .i64 ver) := cell_of_heap ht 4
  have ft4 : w.frozen? ⟨t, 4, none⟩ = false := free_of_heap ht 4
  have lt := lt_of_heap ht
  have HT1 := Lib.hid ht1
  have HC1 := Lib.hid hc1
  have HQ1 := Lib.hid (hq.chg hc1 hqt)
  have HX1 := Lib.hid (hx.chg hc1 hxt)
  have HBK := Lib.hid hb1
  have HR1 := Lib.hid (hrp.chg hc1 hrt)
  have cr0 : ((w.setCell ⟨t, 4, none⟩ (.int .i64 (wrap64 (ver + 1)))).alloc (.cells #[.slice e.A e.m e.p, .int .i64 e.h] 136)).cell? ⟨rb, 0, none⟩ = some (.int .i64 rs.length) := by rw [HR1.out.cell]; rfl
  have hrc : ((rs.length : Int) < 128) = False := by simp; omega
  have cb0 := cell_of_heap hb1 0
  have cb1 := cell_of_heap hb1 1
  have HL := Lib.hid hl
  have LQ := Lib.hid hq.lt
  have LB := Lib.hid (lt_of_heap hb1)
  have hsib := fun w' (h : RootAt w' x b0 bs xr) => siblings_some x b0 bs xr k w' h hk (by omega)
  rw [hsl, show pgPtr none = .pointer none from rfl] at hsib
  rw [hsr, show pgPtr (some rb) = .pointer (some ⟨rb, 0, none⟩) from rfl] at hsib
  have HS := Lib.hid hsib
  clear hsib hsl ht hq ht1 hc1 hb1 hl hx hrp hsr
  have hbq : ¬ w.heap.size = q := fun h => by have := LQ.out; omega
  go_enter Tryz.func86, Tryz.ntmps86
  go_wp2_with (first | (go_at_call 111; refine (HS.out _ HX1.out).mono ?_; rintro y w' ⟨rfl, rfl⟩) | (go_at_call 114; refine (split_rootS t q x b0 bs _ k rb rs _ _ i es _ _ e c fi la r _ _ HQ1.out HT1.out htq hi HL.out c0 c1 HX1.out hk hbs hxt hxq HR1.out hrt hrq hxr).mono ?_; rintro y w2 ⟨rfl, nb, xs, hh, hrx, hnp, hc2⟩))
  first | go_end0 | refine bodyPost_ret (results_none rfl _ _ _) rfl ?_
  obtain ⟨h1, h2, h3⟩ := hh
  have hs := HC1.out.size
  exact ⟨rfl, nb, xs, ⟨by omega, h2, h3⟩, hrx, hnp, (HC1.out.mono (T := fun b => (b = t ∨ b = q ∨ b = rb) ∨ b = x) (fun k _ h => .inl (.inl h))).next hc2 (fun k _ h => h)⟩

set_option maxRecDepth 100000 in
set_option maxHeartbeats 1000000 in
theorem ov_full_full_any (t q x b0 k : Nat) (bs : List Nat) (es : List XE) (sq xr : List Value) (pq : Value) (e : XE) (c : Int) (fi la r : Value) (ver : Int) (w : World) (i : Nat) (lb : Nat) (ls : List XE) (sl : List Value) (nl pl : Value) (rb : Nat) (rs : List XE) (sr : List Value) (nr : Value)
    (hq : PageAt w q es sq (.pointer (some ⟨rb, 0, none⟩)) pq) (ht : TreeW w t c fi la r ver) (hx : RootAt w x b0 bs xr) (hk : k ≤ bs.length) (hbs : bs.length ≤ 250) (hl : es.length = 128) (c0 : 0 ≤ c) (c1 : c ≤ 2147483646) (hsl : sibL (b0 :: bs) k = some lb) (hlp : PageAt w lb ls sl nl pl) (hll : ls.length = 128) (hsr : sibR (b0 :: bs) k = some rb) (hrp : PageAt w rb rs sr nr (.pointer (some ⟨q, 0, none⟩))) (hrq : ¬ rb = q) (hrl : rs.length = 128) (hi : i ≤ 128) :
    Calls Tryz.prog 86 #[.pointer (some ⟨t, 0, none⟩), .pointer (some ⟨x, 0, none⟩), .pointer (some ⟨q, 0, none⟩), .int .i64 k, .int .i64 i, .agg #[.slice e.A e.m e.p, .int .i64 e.h], .int .i64 e.n] w
      (fun y w' => y = .returned (.tuple #[]) ∧ ∃ nb s, Halves w w' t q es i e (.pointer (some ⟨rb, 0, none⟩)) pq c fi nb la r ∧ RootAt w' x b0 (bs.take k ++ nb :: bs.drop k) s ∧ PageAt w' rb rs sr nr (.pointer (some ⟨nb, 0, none⟩)) ∧ Chg (fun b => (b = t ∨ b = q ∨ b = rb) ∨ b = x) w w') := by
  have hqt := tag_ne hq.heap ht (by decide)
  have hxt := tag_ne hx.heap ht (by decide)
  have hxq := tag_ne hx.heap hq.heap (by decide)
  have htq : ¬ t = q := fun h => hqt h.symm
  have hlt := tag_ne hlp.heap ht (by decide)
  have hrt := tag_ne hrp.heap ht (by decide)
  have hxr := tag_ne hx.heap hrp.heap (by decide)
  obtain ⟨ht1, hc1, hb1⟩ := over_start e ht
  have ct4 : w.cell? ⟨t, 4, none⟩ = some (.int .i64 ver) := cell_of_heap ht 4
  have ft4 : w.frozen? ⟨t, 4, none⟩ = false := free_of_heap ht 4
  have lt := lt_of_heap ht
  have HT1 := Lib.hid ht1
  have HC1 := Lib.hid hc1
  have HQ1 := Lib.hid (hq.chg hc1 hqt)
  have HX1 := Lib.hid (hx.chg hc1 hxt)
  have HBK := Lib.hid hb1
  have HL1 := Lib.hid (hlp.chg hc1 hlt)
  have cl0 : ((w.setCell ⟨t, 4, none⟩ (.int .i64 (wrap64 (ver + 1)))).alloc (.cells #[.slice e.A e.m e.p, .int .i64 e.h] 136)).cell? ⟨lb, 0, none⟩ = some (.int .i64 ls.length) := by rw [HL1.out.cell]; rfl
  have hlc : ((ls.length : Int) < 128) = False := by simp; omega
  have HR1 := Lib.hid (hrp.chg hc1 hrt)
  have cr0 : ((w.setCell ⟨t, 4, none⟩ (.int .i64 (wrap64 (ver + 1)))).alloc (.cells #[.slice e.A e.m e.p, .int .i64 e.h] 136)).cell? ⟨rb, 0, none⟩ = some (.int .i64 rs.length) := by rw [HR1.out.cell]; rfl
  have hrc : ((rs.length : Int) < 128) = False := by simp; omega
  have cb0 := cell_of_heap hb1 0
  have cb1 := cell_of_heap hb1 1
  have HL := Lib.hid hl
  have LQ := Lib.hid hq.lt
  have LB := Lib.hid (lt_of_heap hb1)
  have hsib := fun w' (h : RootAt w' x b0 bs xr) => siblings_some x b0 bs xr k w' h hk (by omega)
  rw [hsl, show pgPtr (some lb) = .pointer (some ⟨lb, 0, none⟩) from rfl] at hsib
  rw [hsr, show pgPtr (some rb) = .pointer (some ⟨rb, 0, none⟩) from rfl] at hsib
  have HS := Lib.hid hsib
  clear hsib hsl ht hq ht1 hc1 hb1 hl hx hlp hrp hsr
  have hbq : ¬ w.heap.size = q := fun h => by have := LQ.out; omega
  go_enter Tryz.func86, Tryz.ntmps86
  go_wp2_with (first | (go_at_call 111; refine (HS.out _ HX1.out).mono ?_; rintro y w' ⟨rfl, rfl⟩) | (go_at_call 114; refine (split_rootS t q x b0 bs _ k rb rs _ _ i es _ _ e c fi la r _ _ HQ1.out HT1.out htq hi HL.out c0 c1 HX1.out hk hbs hxt hxq HR1.out hrt hrq hxr).mono ?_; rintro y w2 ⟨rfl, nb, xs, hh, hrx, hnp, hc2⟩))
  first | go_end0 | refine bodyPost_ret (results_none rfl _ _ _) rfl ?_
  obtain ⟨h1, h2, h3⟩ := hh
  have hs := HC1.out.size
  exact ⟨rfl, nb, xs, ⟨by omega, h2, h3⟩, hrx, hnp, (HC1.out.mono (T := fun b => (b = t ∨ b = q ∨ b = rb) ∨ b = x) (fun k _ h => .inl (.inl h))).next hc2 (fun k _ h => h)⟩

set_option maxRecDepth 100000 in
set_option maxHeartbeats 1000000 in
theorem ov_full_none_any (t q x b0 k : Nat) (bs : List Nat) (es : List XE) (sq xr : List Value) (pq : Value) (e : XE) (c : Int) (fi la r : Value) (ver : Int) (w : World) (i : Nat) (lb : Nat) (ls : List XE) (sl : List Value) (nl pl : Value)
    (hq : PageAt w q es sq (.pointer none) pq) (ht : TreeW w t c fi la r ver) (hx : RootAt w x b0 bs xr) (hk : k ≤ bs.length) (hbs : bs.length ≤ 250) (hl : es.length = 128) (c0 : 0 ≤ c) (c1 : c ≤ 2147483646) (hsl : sibL (b0 :: bs) k = some lb) (hlp : PageAt w lb ls sl nl pl) (hll : ls.length = 128) (hsr : sibR (b0 :: bs) k = none) (hi : i ≤ 128) :
    Calls Tryz.prog 86 #[.pointer (some ⟨t, 0, none⟩), .pointer (some ⟨x, 0, none⟩), .pointer (some ⟨q, 0, none⟩), .int .i64 k, .int .i64 i, .agg #[.slice e.A e.m e.p, .int .i64 e.h], .int .i64 e.n] w
      (fun y w' => y = .returned (.tuple #[]) ∧ ∃ nb s, Halves w w' t q es i e (.pointer none) pq c fi nb (.pointer (some ⟨nb, 0, none⟩)) r ∧ RootAt w' x b0 (bs.take k ++ nb :: bs.drop k) s ∧ Chg (fun b => (b = t ∨ b = q) ∨ b = x) w w') := by
  have hqt := tag_ne hq.heap ht (by decide)
  have hxt := tag_ne hx.heap ht (by decide)
  have hxq := tag_ne hx.heap hq.heap (by decide)
  have htq : ¬ t = q := fun h => hqt h.symm
  have hlt := tag_ne hlp.heap ht (by decide)
  obtain ⟨ht1, hc1, hb1⟩ := over_start e ht
  have ct4 : w.cell? ⟨t, 4, none⟩ = some (.int .i64 ver) := cell_of_heap ht 4
  have ft4 : w.frozen? ⟨t, 4, none⟩ = false := free_of_heap ht 4
  have lt := lt_of_heap ht
  have HT1 := Lib.hid ht1
  have HC1 := Lib.hid hc1
  have HQ1 := Lib.hid (hq.chg hc1 hqt)
  have HX1 := Lib.hid (hx.chg hc1 hxt)
  have HBK := Lib.hid hb1
  have HL1 := Lib.hid (hlp.chg hc1 hlt)
  have cl0 : ((w.setCell ⟨t, 4, none⟩ (.int .i64 (wrap64 (ver + 1)))).alloc (.cells #[.slice e.A e.m e.p, .int .i64 e.h] 136)).cell? ⟨lb, 0, none⟩ = some (.int .i64 ls.length) := by rw [HL1.out.cell]; rfl
  have hlc : ((ls.length : Int) < 128) = False := by simp; omega
  have cb0 := cell_of_heap hb1 0
  have cb1 := cell_of_heap hb1 1
  have HL := Lib.hid hl
  have LQ := Lib.hid hq.lt
  have LB := Lib.hid (lt_of_heap hb1)
  have hsib := fun w' (h : RootAt w' x b0 bs xr) => siblings_some x b0 bs xr k w' h hk (by omega)
  rw [hsl, show pgPtr (some lb) = .pointer (some ⟨lb, 0, none⟩) from rfl] at hsib
  rw [hsr, show pgPtr none = .pointer none from rfl] at hsib
  have HS := Lib.hid hsib
  clear hsib hsl ht hq ht1 hc1 hb1 hl hx hlp hsr
  have hbq : ¬ w.heap.size = q := fun h => by have := LQ.out; omega
  go_enter Tryz.func86, Tryz.ntmps86
  go_wp2_with (first | (go_at_call 111; refine (HS.out _ HX1.out).mono ?_; rintro y w' ⟨rfl, rfl⟩) | (go_at_call 114; refine (split_rootN t q x b0 bs _ k i es _ _ e c fi la r _ _ HQ1.out HT1.out htq hi HL.out c0 c1 HX1.out hk hbs hxt hxq).mono ?_; rintro y w2 ⟨rfl, nb, xs, hh, hrx, hc2⟩))
  first | go_end0 | refine bodyPost_ret (results_none rfl _ _ _) rfl ?_
  obtain ⟨h1, h2, h3⟩ := hh
  have hs := HC1.out.size
  exact ⟨rfl, nb, xs, ⟨by omega, h2, h3⟩, hrx, (HC1.out.mono (T := fun b => (b = t ∨ b = q) ∨ b = x) (fun k _ h => .inl (.inl h))).next hc2 (fun k _ h => h)⟩

end Go.Proofs.YtffgkocokkhahaaGreatDoor
