/-
  Pages: a count, elements side by side, room, two words behind. What an insertion, a move to a neighbour, a split make of one. Of no program.
-/
import Derived.Test.YtffgkocokkhahaaGreatDoorPg
namespace Go.Proofs.YtffgkocokkhahaaGreatDoor
open Go.RowKit

theorem splice_low {α : Type} (L cs : List α) (o k : Nat) (hk : k < o) (ho : o ≤ L.length) : (splice L o cs)[k]? = L[k]? := by
  unfold splice
  rw [List.getElem?_append_left (by rw [List.length_take]; omega), List.getElem?_take, if_pos hk]

theorem splice_nil {α : Type} (L : List α) (o : Nat) : splice L o [] = L := by simp [splice]

/-- The middle is replaced. -/
theorem splice_mid {α : Type} (X Y Z cs : List α) (o : Nat) (ho : o = X.length) (h : Y.length = cs.length) : splice (X ++ (Y ++ Z)) o cs = X ++ (cs ++ Z) := by
  subst ho
  unfold splice
  rw [List.take_append_of_le_length (by omega), List.take_length, ← h, List.drop_append, List.drop_of_length_le (by omega), show X.length + Y.length - X.length = Y.length by omega, List.drop_append_of_le_length (by omega), List.drop_length]
  simp

theorem set_splice {α : Type} (L : List α) (o : Nat) (v : α) (h : o < L.length) : L.set o v = splice L o [v] := by
  unfold splice
  rw [List.set_eq_take_append_cons_drop, if_pos h]
  rfl

theorem splice_next {α : Type} (L cs ds : List α) (o : Nat) (h : o + cs.length + ds.length ≤ L.length) : splice (splice L o cs) (o + cs.length) ds = splice L o (cs ++ ds) := by
  have e : L = L.take o ++ (L.drop o).take cs.length ++ ((L.drop (o + cs.length)).take ds.length ++ L.drop (o + cs.length + ds.length)) := by
    rw [List.append_assoc, ← List.append_assoc (List.take cs.length _), ← List.drop_drop (i := ds.length) (j := o + cs.length) ]
    rw [List.append_assoc, List.take_append_drop, ← List.drop_drop, List.take_append_drop, List.take_append_drop]
  have h1 : splice L o cs = L.take o ++ (cs ++ L.drop (o + cs.length)) := rfl
  have e2 : L.drop (o + cs.length) = (L.drop (o + cs.length)).take ds.length ++ (L.drop (o + cs.length)).drop ds.length := (List.take_append_drop _ _).symm
  rw [h1, e2, show L.take o ++ (cs ++ ((L.drop (o + cs.length)).take ds.length ++ (L.drop (o + cs.length)).drop ds.length)) = (L.take o ++ cs) ++ ((L.drop (o + cs.length)).take ds.length ++ (L.drop (o + cs.length)).drop ds.length) by simp]
  rw [splice_mid _ _ _ ds _ (by simp; omega) (by simp; omega)]
  unfold splice
  rw [List.drop_drop, List.length_append]
  simp [Nat.add_assoc]

theorem set2_splice {α : Type} (L : List α) (o : Nat) (a b : α) (h : o + 2 ≤ L.length) : (L.set o a).set (o + 1) b = splice L o [a, b] := by
  rw [set_splice L o a (by omega), set_splice _ (o + 1) b (by rw [length_splice _ _ _ (by simp; omega)]; omega)]
  exact splice_next L [a] [b] o (by simp; omega)

theorem set3_splice {α : Type} (L : List α) (o : Nat) (a b c : α) (h : o + 3 ≤ L.length) : ((L.set o a).set (o + 1) b).set (o + 2) c = splice L o [a, b, c] := by
  rw [set2_splice L o a b (by omega), set_splice _ (o + 2) c (by rw [length_splice _ _ _ (by simp; omega)]; omega)]
  exact splice_next L [a, b] [c] o (by simp; omega)

/-- The middle is read. -/
theorem mid_at {α : Type} (X Y Z : List α) (o j : Nat) (v : α) (ho : o = X.length) (h : Y[j]? = some v) : (X ++ (Y ++ Z))[o + j]? = some v := by
  subst ho
  have hj : j < Y.length := (List.getElem?_eq_some_iff.1 h).1
  rw [List.getElem?_append_right (by omega), show X.length + j - X.length = j by omega, List.getElem?_append_left hj]
  exact h

section
variable {E : Type} (f : E → List Value) (s : Nat) (hf : ∀ e, (f e).length = s)

/-- A page's cells. -/
def pgL (es : List E) (rest T : List Value) : List Value := .int .i64 es.length :: (flat f es ++ (rest ++ T))

include hf in
theorem pgL_length (es : List E) (rest T : List Value) : (pgL f es rest T).length = 1 + (es.length * s + (rest.length + T.length)) := by
  simp [pgL, flat_length f s hf]; omega

/-- The count is written over. -/
theorem pgL_set0 (es : List E) (rest T : List Value) (v : Value) : (pgL f es rest T).set 0 v = v :: (flat f es ++ (rest ++ T)) := rfl

theorem pgL_count (es : List E) (rest T : List Value) : (pgL f es rest T)[0]? = some (.int .i64 es.length) := rfl

include hf in
theorem pgL_at (es : List E) (rest T : List Value) (i r : Nat) (e : E) (v : Value) (h : es[i]? = some e) (hr : r < s) (hv : (f e)[r]? = some v) : (pgL f es rest T)[1 + i * s + r]? = some v := by
  unfold pgL
  rw [show 1 + i * s + r = (i * s + r) + 1 by omega, List.getElem?_cons_succ]
  have h1 := flat_at f s hf es i e r v h hr hv
  rw [List.getElem?_append_left (List.getElem?_eq_some_iff.1 h1).1]
  exact h1

include hf in
theorem pgL_tail (es : List E) (rest T : List Value) (k j : Nat) (hk : k = 1 + es.length * s + rest.length + j) : (pgL f es rest T)[k]? = T[j]? := by
  subst hk
  unfold pgL
  rw [show 1 + es.length * s + rest.length + j = (es.length * s + (rest.length + j)) + 1 by omega, List.getElem?_cons_succ, List.getElem?_append_right (by rw [flat_length f s hf]; omega), flat_length f s hf,
    show es.length * s + (rest.length + j) - es.length * s = rest.length + j by omega, List.getElem?_append_right (by omega)]
  congr 1
  omega

include hf in
/-- Elements from i on, as many as are wanted, are what lies there. -/
theorem pgL_src (es : List E) (rest T : List Value) (i n j : Nat) (v : Value) (h : (flat f ((es.drop i).take n))[j]? = some v) : (pgL f es rest T)[1 + i * s + j]? = some v := by
  have e1 : flat f es = flat f (es.take i) ++ (flat f ((es.drop i).take n) ++ flat f ((es.drop i).drop n)) := by
    rw [← flat_append, List.take_append_drop, ← flat_append, List.take_append_drop]
  rcases Nat.lt_or_ge es.length i with hi | hi
  · rw [List.drop_of_length_le (by omega)] at h
    simp [flat] at h
  · unfold pgL
    rw [show 1 + i * s + j = (i * s + j) + 1 by omega, List.getElem?_cons_succ]
    have h1 : (flat f es)[i * s + j]? = some v := by
      rw [e1]
      exact mid_at _ _ _ _ j v (by rw [flat_length f s hf, List.length_take, Nat.min_eq_left hi]) h
    rw [List.getElem?_append_left (List.getElem?_eq_some_iff.1 h1).1]
    exact h1

include hf in
/-- An insertion: the elements from i on go one up, the count is raised, the new one is laid at i. -/
theorem ins_row (es : List E) (rest T : List Value) (i : Nat) (e : E) (hi : i ≤ es.length) (hr : s ≤ rest.length) :
    splice ((splice (pgL f es rest T) (1 + (i + 1) * s) (flat f (es.drop i))).set 0 (.int .i64 (es.length + 1 : Nat))) (1 + i * s) (f e) = pgL f (es.take i ++ e :: es.drop i) (rest.drop s) T := by
  have hA : (flat f (es.take i)).length = i * s := by rw [flat_length f s hf, List.length_take, Nat.min_eq_left hi]
  have hD : (flat f (es.drop i)).length = (es.length - i) * s := by rw [flat_length f s hf, List.length_drop]
  have e1 : flat f es = flat f (es.take i) ++ flat f (es.drop i) := by rw [← flat_append, List.take_append_drop]
  have hDR : (flat f (es.drop i) ++ rest).length = (es.length - i) * s + rest.length := by rw [List.length_append, hD]
  have e2 : flat f (es.drop i) ++ rest = (flat f (es.drop i) ++ rest).take s ++ (((flat f (es.drop i) ++ rest).drop s).take ((es.length - i) * s) ++ rest.drop s) := by
    have : rest.drop s = ((flat f (es.drop i) ++ rest).drop s).drop ((es.length - i) * s) := by
      rw [List.drop_drop, List.drop_append, List.drop_of_length_le (l := flat f (es.drop i)) (by rw [hD]; omega), hD, List.nil_append]
      congr 1
      omega
    rw [this, List.take_append_drop, List.take_append_drop]
  have hX : ((flat f (es.drop i) ++ rest).take s).length = s := by rw [List.length_take, hDR]; omega
  have hY : (((flat f (es.drop i) ++ rest).drop s).take ((es.length - i) * s)).length = (es.length - i) * s := by rw [List.length_take, List.length_drop, hDR]; omega
  generalize hXd : (flat f (es.drop i) ++ rest).take s = X at *
  generalize ((flat f (es.drop i) ++ rest).drop s).take ((es.length - i) * s) = Y at *
  have e3 : pgL f es rest T = (.int .i64 es.length :: (flat f (es.take i) ++ X)) ++ (Y ++ (rest.drop s ++ T)) := by
    unfold pgL
    rw [e1, show flat f (es.take i) ++ flat f (es.drop i) ++ (rest ++ T) = flat f (es.take i) ++ ((flat f (es.drop i) ++ rest) ++ T) by simp, e2]
    simp
  rw [e3, splice_mid _ _ _ (flat f (es.drop i)) _ (by simp [hA, hX, Nat.succ_mul]; omega) (by rw [hY, hD])]
  rw [show ((.int .i64 es.length :: (flat f (es.take i) ++ X)) ++ (flat f (es.drop i) ++ (rest.drop s ++ T))).set 0 (Value.int .i64 (es.length + 1 : Nat)) = (.int .i64 (es.length + 1 : Nat) :: flat f (es.take i)) ++ (X ++ (flat f (es.drop i) ++ (rest.drop s ++ T))) by simp]
  rw [splice_mid _ _ _ (f e) _ (by simp [hA]; omega) (by rw [hX, hf])]
  unfold pgL
  rw [flat_append, flat_cons]
  simp [List.length_take, Nat.min_eq_left hi]
  omega

include hf in
/-- Elements are laid behind those of a page. -/
theorem add_row (es fs : List E) (rest T : List Value) (h : fs.length * s ≤ rest.length) :
    (splice (pgL f es rest T) (1 + es.length * s) (flat f fs)).set 0 (.int .i64 (es.length + fs.length : Nat)) = pgL f (es ++ fs) (rest.drop (fs.length * s)) T := by
  have e1 : rest = rest.take (fs.length * s) ++ rest.drop (fs.length * s) := (List.take_append_drop _ _).symm
  have e3 : pgL f es rest T = (.int .i64 es.length :: flat f es) ++ (rest.take (fs.length * s) ++ (rest.drop (fs.length * s) ++ T)) := by
    unfold pgL
    rw [List.cons_append, ← List.append_assoc (rest.take _), List.take_append_drop]
  rw [e3, splice_mid _ _ _ (flat f fs) _ (by simp [flat_length f s hf]; omega) (by rw [List.length_take, flat_length f s hf]; omega)]
  unfold pgL
  rw [flat_append]
  simp

include hf in
/-- The first c elements are taken out: those behind go down. -/
theorem cut_row (es : List E) (rest T : List Value) (c : Nat) (hc : c ≤ es.length) :
    ∃ rest', rest'.length = rest.length + c * s ∧ (∀ x ∈ rest', x ∈ flat f es ∨ x ∈ rest) ∧
      (splice (pgL f es rest T) 1 (flat f (es.drop c))).set 0 (.int .i64 (es.length - c : Nat)) = pgL f (es.drop c) rest' T := by
  have hD : (flat f (es.drop c)).length = (es.length - c) * s := by rw [flat_length f s hf, List.length_drop]
  have hL : (flat f es ++ rest).length = es.length * s + rest.length := by rw [List.length_append, flat_length f s hf]
  have hm : (es.length - c) * s + c * s = es.length * s := by rw [← Nat.add_mul]; congr 1; omega
  refine ⟨(flat f es ++ rest).drop ((es.length - c) * s), by rw [List.length_drop, hL]; omega, fun x hx => by have := List.mem_of_mem_drop hx; simpa using this, ?_⟩
  have e3 : pgL f es rest T = [.int .i64 es.length] ++ ((flat f es ++ rest).take ((es.length - c) * s) ++ ((flat f es ++ rest).drop ((es.length - c) * s) ++ T)) := by
    unfold pgL
    rw [← List.append_assoc (List.take _ _), List.take_append_drop]
    simp
  rw [e3, splice_mid _ _ _ (flat f (es.drop c)) 1 (by simp) (by rw [List.length_take, hL, hD]; omega)]
  unfold pgL
  simp

include hf in
/-- Elements are laid ahead of those of a page. -/
theorem fore_row (es fs : List E) (rest T : List Value) (h : fs.length * s ≤ rest.length) :
    (splice (splice (pgL f es rest T) (1 + fs.length * s) (flat f es)) 1 (flat f fs)).set 0 (.int .i64 (es.length + fs.length : Nat)) = pgL f (fs ++ es) (rest.drop (fs.length * s)) T := by
  have hE : (flat f es).length = es.length * s := flat_length f s hf es
  have hF : (flat f fs).length = fs.length * s := flat_length f s hf fs
  have hL : (flat f es ++ rest).length = es.length * s + rest.length := by rw [List.length_append, hE]
  have e2 : flat f es ++ rest = (flat f es ++ rest).take (fs.length * s) ++ (((flat f es ++ rest).drop (fs.length * s)).take (es.length * s) ++ rest.drop (fs.length * s)) := by
    have : rest.drop (fs.length * s) = ((flat f es ++ rest).drop (fs.length * s)).drop (es.length * s) := by
      rw [List.drop_drop, List.drop_append, List.drop_of_length_le (l := flat f es) (by rw [hE]; omega), hE, List.nil_append]
      congr 1
      omega
    rw [this, List.take_append_drop, List.take_append_drop]
  have hX : ((flat f es ++ rest).take (fs.length * s)).length = fs.length * s := by rw [List.length_take, hL]; omega
  have hY : (((flat f es ++ rest).drop (fs.length * s)).take (es.length * s)).length = es.length * s := by rw [List.length_take, List.length_drop, hL]; omega
  generalize (flat f es ++ rest).take (fs.length * s) = X at *
  generalize ((flat f es ++ rest).drop (fs.length * s)).take (es.length * s) = Y at *
  have e3 : pgL f es rest T = (.int .i64 es.length :: X) ++ (Y ++ (rest.drop (fs.length * s) ++ T)) := by
    unfold pgL
    rw [show flat f es ++ (rest ++ T) = (flat f es ++ rest) ++ T by simp, e2]
    simp
  rw [e3, splice_mid _ _ _ (flat f es) _ (by simp [hX]; omega) (by rw [hY, hE])]
  rw [show (.int .i64 es.length :: X) ++ (flat f es ++ (rest.drop (fs.length * s) ++ T)) = [Value.int .i64 es.length] ++ (X ++ (flat f es ++ (rest.drop (fs.length * s) ++ T))) by simp]
  rw [splice_mid _ _ _ (flat f fs) 1 (by simp) (by rw [hX, hF])]
  unfold pgL
  rw [flat_append]
  simp [Nat.add_comm]

/-- Fewer elements: the others are room. -/
theorem less_row (es : List E) (rest T : List Value) (c : Nat) (hc : c ≤ es.length) :
    (pgL f es rest T).set 0 (.int .i64 c) = pgL f (es.take c) (flat f (es.drop c) ++ rest) T := by
  unfold pgL
  rw [← List.append_assoc (flat f (es.take c)), ← List.append_assoc (flat f (es.take c)), ← flat_append, List.take_append_drop, List.length_take, Nat.min_eq_left hc]
  simp
end

end Go.Proofs.YtffgkocokkhahaaGreatDoor
