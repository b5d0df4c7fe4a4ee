/-
  How many values of a list are not NULL; a map's block laid anew.
-/
import Derived.Test.YtkfaalfbnhkkaaaDoorSl3
import Derived.Test.YtkfaalfbnhkkaaaDoorCt
namespace Go.Proofs.YtkfaalfbnhkkaaaDoor
open Go.RowKit

def VV.isNull (x : VV) : Bool := x.k.toList.isEmpty
/-- How many of the first k values are not NULL. -/
def cntL (l : List VV) (k : Nat) : Nat := ((l.take k).filter fun x => !x.isNull).length
def cntO (l : List VV) (k : Nat) : Option Nat := if k = 0 then none else some (cntL l k)

theorem cntL_le (l : List VV) (k : Nat) : cntL l k ≤ k := by
  unfold cntL
  refine Nat.le_trans (List.length_filter_le _ _) ?_
  rw [List.length_take]
  omega
theorem cntL_step {l : List VV} {k : Nat} {x : VV} (h : l[k]? = some x) : cntL l (k + 1) = cntL l k + if x.isNull then 0 else 1 := by
  unfold cntL
  rw [List.take_add_one, h, List.filter_append, List.length_append]
  cases hx : x.isNull <;> simp [hx]
theorem cntO_getD (l : List VV) (k : Nat) : (cntO l k).getD 0 = cntL l k := by
  unfold cntO
  by_cases h : k = 0
  · subst h; simp [cntL]
  · simp [h]
theorem cntO_step {l : List VV} {k n : Nat} {x : VV} (h : l[k]? = some x) (hn : n = if x.isNull then 0 else 1) : cntO l (k + 1) = some ((cntO l k).getD 0 + n) := by
  rw [cntO_getD, hn, ← cntL_step h]
  simp [cntO]

theorem one_of_rep {x : VV} {y : SV} {v : Value} {w : World} (hg : x.good) (hs : x.is y) (hr : Rep w y v) : one01 v = if x.isNull then 0 else 1 := by
  have hnull : Kd.of x.k.toList = .null ↔ x.isNull = true := by
    constructor
    · intro h
      have := Kd.of_lit _ h (by simp)
      unfold VV.isNull
      rw [this]
      rfl
    · intro h
      have h' : x.k.toList = [] := by unfold VV.isNull at h; simpa using h
      rw [h']
      rfl
  have hy : y = .null ↔ x.isNull = true := by
    rw [← hnull]
    have ho : Kd.of x.k.toList ≠ .other := fun h => by
      have := hg.2
      rw [h] at this
      cases this
    unfold VV.is SVof at hs
    split at hs
    · rename_i h
      obtain ⟨z, rfl, _⟩ := hs
      rw [h.1]
      simp
    · subst hs
      revert ho
      cases Kd.of x.k.toList <;> simp [toSV]
  cases hx : x.isNull with
  | true =>
    obtain rfl := hy.2 hx
    have h' : v = .nilIface := hr
    subst h'
    rfl
  | false =>
    rcases rep_form hr with rfl | ⟨t, u, rfl⟩
    · exfalso
      have : y = .null := by
        cases y with
        | null => rfl
        | blob l => obtain ⟨a, cap, h, _⟩ := hr; cases h
        | _ => (have h' : Value.nilIface = _ := hr); cases h'
      rw [hy.1 this] at hx
      cases hx
    · rfl

theorem Below.setMap {B : Nat} {a w : World} (h : Below B a w) {b : Nat} (hb : B ≤ b) (o : Obj) : Below B a (setMap w b o) :=
  ⟨h.os, h.tape, h.output, by have := h.size; simpa [Go.Proofs.YtkfaalfbnhkkaaaDoor.setMap] using this, fun k hk => by
    have hne : b ≠ k := by omega
    rw [← h.block k hk]
    simp [Go.Proofs.YtkfaalfbnhkkaaaDoor.setMap, hne]⟩
theorem setMap_at {w : World} {b : Nat} (h : b < w.heap.size) (o : Obj) : (setMap w b o).heap[b]? = some o := by
  simp [setMap, h]
theorem setMap_size (w : World) (b : Nat) (o : Obj) : (setMap w b o).heap.size = w.heap.size := by
  simp [setMap]

theorem block_below {w w' : World} {b : Nat} {o : Obj} (h : w.heap[b]? = some o) (hb : Below w.heap.size w w') : w'.heap[b]? = some o := by
  have hlt : b < w.heap.size := (Array.getElem?_eq_some_iff.1 h).1
  rw [hb.block b hlt]
  exact h
/-- A value comes in, a list of one is laid: the map is as it was. -/
theorem map_step {wr w1 : World} {b : Nat} {o p q : Obj} (h : wr.heap[b]? = some o) (hb : Below (wr.alloc p).heap.size (wr.alloc p) w1) : (w1.alloc q).heap[b]? = some o :=
  block_below (block_below (block_below h ((Below.refl _ _).alloc (Nat.le_refl _) p)) hb) ((Below.refl _ _).alloc (Nat.le_refl _) q)
theorem below_step {W wr w1 : World} {p q : Obj} (h : Below W.heap.size W wr) (hb : Below (wr.alloc p).heap.size (wr.alloc p) w1) : Below W.heap.size W (w1.alloc q) :=
  ((h.trans (((Below.refl _ _).alloc (Nat.le_refl _) p).mono h.size)).trans (hb.mono (by have := h.size; simp; omega))).alloc (by have := h.size; have := hb.size; simp at this; omega) q

end Go.Proofs.YtkfaalfbnhkkaaaDoor
