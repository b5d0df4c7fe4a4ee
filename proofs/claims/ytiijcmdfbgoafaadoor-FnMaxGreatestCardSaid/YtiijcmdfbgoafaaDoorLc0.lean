/-
  Lists of values and the map's block: what both aggregate functions need.
-/
import Derived.Test.YtiijcmdfbgoafaaDoorSl3
import Derived.Test.YtiijcmdfbgoafaaDoorMp
namespace Go.Proofs.YtiijcmdfbgoafaaDoor
open Go.RowKit

def VV.isNull (x : VV) : Bool := x.k.toList.isEmpty
/-- How many of the first k values are not NULL. -/
def cntL (l : List VV) (k : Nat) : Nat := ((l.take k).filter fun x => !x.isNull).length

theorem cntL_le (l : List VV) (k : Nat) : cntL l k ≤ k := by
  unfold cntL
  refine Nat.le_trans (List.length_filter_le _ _) ?_
  rw [List.length_take]
  omega
theorem cntL_step {l : List VV} {k : Nat} {x : VV} (h : l[k]? = some x) : cntL l (k + 1) = cntL l k + if x.isNull then 0 else 1 := by
  unfold cntL
  rw [List.take_add_one, h, List.filter_append, List.length_append]
  cases hx : x.isNull <;> simp [hx]

theorem Below.setMap {B : Nat} {a w : World} (h : Below B a w) {b : Nat} (hb : B ≤ b) (o : Obj) : Below B a (setMap w b o) :=
  ⟨h.os, h.tape, h.output, by have := h.size; simpa [Go.Proofs.YtiijcmdfbgoafaaDoor.setMap] using this, fun k hk => by
    have hne : b ≠ k := by omega
    rw [← h.block k hk]
    simp [Go.Proofs.YtiijcmdfbgoafaaDoor.setMap, hne]⟩
theorem setMap_at {w : World} {b : Nat} (h : b < w.heap.size) (o : Obj) : (setMap w b o).heap[b]? = some o := by
  simp [setMap, h]
theorem setMap_size (w : World) (b : Nat) (o : Obj) : (setMap w b o).heap.size = w.heap.size := by
  simp [setMap]

theorem block_below {w w' : World} {b : Nat} {o : Obj} (h : w.heap[b]? = some o) (hb : Below w.heap.size w w') : w'.heap[b]? = some o := by
  have hlt : b < w.heap.size := (Array.getElem?_eq_some_iff.1 h).1
  rw [hb.block b hlt]
  exact h
/-- A value comes in, a list of one is laid: the map is as it was. -/
theorem map_step {wr w1 : World} {b : Nat} {o p q : Obj} (h : wr.heap[b]? = some o) (hb : Below (wr.alloc p).heap.size (wr.alloc p) w1) : (w1.alloc q).heap[b]? = some o :=
  block_below (block_below (block_below h ((Below.refl _ _).alloc (Nat.le_refl _) p)) hb) ((Below.refl _ _).alloc (Nat.le_refl _) q)
theorem below_step {W wr w1 : World} {p q : Obj} (h : Below W.heap.size W wr) (hb : Below (wr.alloc p).heap.size (wr.alloc p) w1) : Below W.heap.size W (w1.alloc q) :=
  ((h.trans (((Below.refl _ _).alloc (Nat.le_refl _) p).mono h.size)).trans (hb.mono (by have := h.size; simp; omega))).alloc (by have := h.size; have := hb.size; simp at this; omega) q

end Go.Proofs.YtiijcmdfbgoafaaDoor
