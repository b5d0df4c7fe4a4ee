/-
  Pages of the index's tree in memory.
-/
import Derived.Test.YtffgkocokkhahaaGreatDoorPa
import Derived.Test.YtffgkocokkhahaaGreatDoorSl
namespace Go.Proofs.YtffgkocokkhahaaGreatDoor
open Go.RowKit

/-- An entry of a page: the key's values, as they are and as they lie in memory; its handle; what is kept. -/
structure XE where
  l : List VV
  A : Option Addr
  m : Nat
  p : Nat
  h : Int
  n : Int
def XE.cells (e : XE) : List Value := [.slice e.A e.m e.p, .int .i64 e.h, .int .i64 e.n]
theorem XE.three (e : XE) : e.cells.length = 3 := rfl

/-- A page's memory. -/
structure PageAt (w : World) (b : Nat) (es : List XE) (rest : List Value) (nx pv : Value) : Prop where
  heap : w.heap[b]? = some (.cells (pgL XE.cells es rest [nx, pv]).toArray 175 (0, 0))
  room : es.length * 3 + rest.length = 387
  one : ∀ x ∈ rest, x.oneCell' = true

theorem PageAt.lt {w : World} {b : Nat} {es : List XE} {rest : List Value} {nx pv : Value} (h : PageAt w b es rest nx pv) : b < w.heap.size := lt_of_heap h.heap
theorem PageAt.le {w : World} {b : Nat} {es : List XE} {rest : List Value} {nx pv : Value} (h : PageAt w b es rest nx pv) : es.length ≤ 129 := by have := h.room; omega
theorem PageAt.cell {w : World} {b : Nat} {es : List XE} {rest : List Value} {nx pv : Value} (h : PageAt w b es rest nx pv) (o : Nat) : w.cell? ⟨b, o, none⟩ = (pgL XE.cells es rest [nx, pv])[o]? := by
  rw [cell_of_heap h.heap]
  simp
theorem PageAt.free {w : World} {b : Nat} {es : List XE} {rest : List Value} {nx pv : Value} (h : PageAt w b es rest nx pv) (o : Nat) : w.frozen? ⟨b, o, none⟩ = false := free_of_heap h.heap o
theorem PageAt.chg {S : Nat → Prop} {w w' : World} {b : Nat} {es : List XE} {rest : List Value} {nx pv : Value} (h : PageAt w b es rest nx pv) (hc : Chg S w w') (hn : ¬ S b) : PageAt w' b es rest nx pv :=
  ⟨heap_chg h.heap hc hn, h.room, h.one⟩

/-- The tree's own five words. -/
def TreeW (w : World) (t : Nat) (c : Int) (fi la r : Value) (ver : Int) : Prop := w.heap[t]? = some (.cells #[.int .i64 c, fi, la, r, .int .i64 ver] 168 (0, 0))

theorem TreeW.chg {S : Nat → Prop} {w w' : World} {t : Nat} {c : Int} {fi la r : Value} {ver : Int} (h : TreeW w t c fi la r ver) (hc : Chg S w w') (hn : ¬ S t) : TreeW w' t c fi la r ver := heap_chg h hc hn

@[go_sem] theorem as_xx_xd (v : Value) (w : World) : (Instr.typeAssert (.iface 149 v) 20 169 true).run Tryz.prog w = .ok (.tuple #[.pointer none, .bool false]) w := by kernel_rfl
@[go_sem] theorem as_xd_xd (v : Value) (w : World) : (Instr.typeAssert (.iface 149 v) 20 149 true).run Tryz.prog w = .ok (.tuple #[v, .bool true]) w := by kernel_rfl
@[go_sem] theorem as_xd_xd1 (v : Value) (w : World) : (Instr.typeAssert (.iface 149 v) 20 149 false).run Tryz.prog w = .ok v w := by kernel_rfl
@[go_sem] theorem as_xx_xx (v : Value) (w : World) : (Instr.typeAssert (.iface 169 v) 20 169 true).run Tryz.prog w = .ok (.tuple #[v, .bool true]) w := by kernel_rfl
@[go_sem] theorem as_xd_xx (v : Value) (w : World) : (Instr.typeAssert (.iface 169 v) 20 149 true).run Tryz.prog w = .ok (.tuple #[.pointer none, .bool false]) w := by kernel_rfl

theorem flat_one (es : List XE) : ∀ x ∈ flat XE.cells es, x.oneCell' = true := by
  intro x hx
  unfold flat at hx
  obtain ⟨e, he, hx⟩ := List.mem_flatMap.1 hx
  simp [XE.cells] at hx
  rcases hx with rfl | rfl | rfl <;> rfl

/-- The root over several pages: a count, the first page, then for each further one itself twice: as what parts, and as what hangs there. -/
def dbl (b : Nat) : List Value := [.pointer (some ⟨b, 0, none⟩), .iface 149 (.pointer (some ⟨b, 0, none⟩))]
theorem dbl_two (b : Nat) : (dbl b).length = 2 := rfl
def xgL (b0 : Nat) (bs : List Nat) (rest : List Value) : List Value := .int .i64 bs.length :: .iface 149 (.pointer (some ⟨b0, 0, none⟩)) :: (flat dbl bs ++ rest)
structure RootAt (w : World) (x b0 : Nat) (bs : List Nat) (rest : List Value) : Prop where
  heap : w.heap[x]? = some (.cells (xgL b0 bs rest).toArray 180 (0, 0))
  room : bs.length * 2 + rest.length = 515
  one : ∀ v ∈ rest, v.oneCell' = true

theorem xgL_length (b0 : Nat) (bs : List Nat) (rest : List Value) : (xgL b0 bs rest).length = 2 + (bs.length * 2 + rest.length) := by
  simp [xgL, flat_length dbl 2 dbl_two]
  omega
theorem RootAt.lt {w : World} {x b0 : Nat} {bs : List Nat} {rest : List Value} (h : RootAt w x b0 bs rest) : x < w.heap.size := lt_of_heap h.heap
theorem RootAt.cell {w : World} {x b0 : Nat} {bs : List Nat} {rest : List Value} (h : RootAt w x b0 bs rest) (o : Nat) : w.cell? ⟨x, o, none⟩ = (xgL b0 bs rest)[o]? := by
  rw [cell_of_heap h.heap]
  simp
theorem RootAt.free {w : World} {x b0 : Nat} {bs : List Nat} {rest : List Value} (h : RootAt w x b0 bs rest) (o : Nat) : w.frozen? ⟨x, o, none⟩ = false := free_of_heap h.heap o
theorem RootAt.below {w w' : World} {x b0 : Nat} {bs : List Nat} {rest : List Value} (h : RootAt w x b0 bs rest) (hb : Below w.heap.size w w') : RootAt w' x b0 bs rest := ⟨heap_below h.heap hb, h.room, h.one⟩
theorem RootAt.chg {S : Nat → Prop} {w w' : World} {x b0 : Nat} {bs : List Nat} {rest : List Value} (h : RootAt w x b0 bs rest) (hc : Chg S w w') (hn : ¬ S x) : RootAt w' x b0 bs rest := ⟨heap_chg h.heap hc hn, h.room, h.one⟩
theorem PageAt.below {w w' : World} {b : Nat} {es : List XE} {rest : List Value} {nx pv : Value} (h : PageAt w b es rest nx pv) (hb : Below w.heap.size w w') : PageAt w' b es rest nx pv := ⟨heap_below h.heap hb, h.room, h.one⟩

/-- What parts the pages j and j + 1. -/
theorem RootAt.sep {w : World} {x b0 : Nat} {bs : List Nat} {rest : List Value} (h : RootAt w x b0 bs rest) {j b : Nat} (hj : bs[j]? = some b) : w.cell? ⟨x, 1 + j * 2 + 1, none⟩ = some (.pointer (some ⟨b, 0, none⟩)) := by
  rw [h.cell]
  unfold xgL
  rw [show 1 + j * 2 + 1 = (j * 2) + 1 + 1 by omega, List.getElem?_cons_succ, List.getElem?_cons_succ]
  have h1 : (flat dbl bs)[j * 2]? = some (.pointer (some ⟨b, 0, none⟩)) := flat_at dbl 2 dbl_two bs j b 0 _ hj (by omega) rfl
  rw [List.getElem?_append_left (List.getElem?_eq_some_iff.1 h1).1]
  exact h1
theorem RootAt.ch {w : World} {x b0 : Nat} {bs : List Nat} {rest : List Value} (h : RootAt w x b0 bs rest) {j b : Nat} (hj : (b0 :: bs)[j]? = some b) : w.cell? ⟨x, 1 + j * 2, none⟩ = some (.iface 149 (.pointer (some ⟨b, 0, none⟩))) := by
  rw [h.cell]
  unfold xgL
  cases j with
  | zero =>
    obtain rfl : b0 = b := by simpa using hj
    rfl
  | succ j =>
    rw [show 1 + (j + 1) * 2 = (j * 2 + 1) + 1 + 1 by omega, List.getElem?_cons_succ, List.getElem?_cons_succ]
    have h1 := flat_at dbl 2 dbl_two bs j b 1 _ (by simpa using hj) (by omega) rfl
    rw [List.getElem?_append_left (List.getElem?_eq_some_iff.1 h1).1]
    exact h1

end Go.Proofs.YtffgkocokkhahaaGreatDoor
