/-
  Pages that lose an entry; the root that loses a page. Lists alone. || (*x).extract: the root loses a page. || (*tree).cat: two pages become one. PRINTED BY wip/tpl/gen_yct.py.
-/
import Derived.Test.YtffgkocokkhahaaDoorTp13
import Derived.Test.YtffgkocokkhahaaDoorTp14
import Derived.Test.YtffgkocokkhahaaDoorTp15

/- Pages that lose an entry; the root that loses a page. Lists alone. -/
namespace Go.Proofs.YtffgkocokkhahaaDoor
open Go.RowKit

section
variable {E : Type} (f : E → List Value) (s : Nat) (hf : ∀ e, (f e).length = s)

include hf in
/-- An entry is taken out: those behind go one down, the last place is emptied, the count is lowered. -/
theorem ext_row (es : List E) (rest T z : List Value) (i : Nat) (hi : i < es.length) (hz : z.length = s) :
    splice (splice ((pgL f es rest T).set 0 (.int .i64 (es.length - 1 : Nat))) (1 + i * s) (flat f (es.drop (i + 1)))) (1 + (es.length - 1) * s) z = pgL f (es.eraseIdx i) (z ++ rest) T := by
  have e0 : es = es.take i ++ es[i] :: es.drop (i + 1) := by rw [← List.drop_eq_getElem_cons hi, List.take_append_drop]
  have e1 : flat f es = flat f (es.take i) ++ (f es[i] ++ flat f (es.drop (i + 1))) := by
    conv => lhs; rw [e0]
    rw [flat_append, flat_cons]
  have hX : (flat f (es.take i)).length = i * s := by rw [flat_length f s hf, List.length_take, Nat.min_eq_left (by omega)]
  have hY : (flat f (es.drop (i + 1))).length = (es.length - (i + 1)) * s := by rw [flat_length f s hf, List.length_drop]
  have hM : (f es[i] ++ flat f (es.drop (i + 1))).length = (es.length - (i + 1)) * s + s := by rw [List.length_append, hf, hY]; omega
  have hn : (es.length - 1) * s = i * s + (es.length - (i + 1)) * s := by rw [← Nat.add_mul]; congr 1; omega
  have e2 : f es[i] ++ flat f (es.drop (i + 1)) = (f es[i] ++ flat f (es.drop (i + 1))).take ((es.length - (i + 1)) * s) ++ (f es[i] ++ flat f (es.drop (i + 1))).drop ((es.length - (i + 1)) * s) := (List.take_append_drop _ _).symm
  have hP : ((f es[i] ++ flat f (es.drop (i + 1))).take ((es.length - (i + 1)) * s)).length = (es.length - (i + 1)) * s := by rw [List.length_take, hM]; omega
  have hQ : ((f es[i] ++ flat f (es.drop (i + 1))).drop ((es.length - (i + 1)) * s)).length = s := by rw [List.length_drop, hM]; omega
  have e3 : es.eraseIdx i = es.take i ++ es.drop (i + 1) := List.eraseIdx_eq_take_drop_succ es i
  have hl : (es.take i ++ es.drop (i + 1)).length = es.length - 1 := by simp [List.length_take]; omega
  have e4 : (pgL f es rest T).set 0 (.int .i64 (es.length - 1 : Nat)) = (.int .i64 (es.length - 1 : Nat) :: flat f (es.take i)) ++ ((f es[i] ++ flat f (es.drop (i + 1))).take ((es.length - (i + 1)) * s) ++ ((f es[i] ++ flat f (es.drop (i + 1))).drop ((es.length - (i + 1)) * s) ++ (rest ++ T))) := by
    rw [pgL_set0, e1, List.append_assoc (flat f (es.take i)), List.cons_append, ← List.append_assoc ((f es[i] ++ flat f (es.drop (i + 1))).take _), ← e2]
  rw [e4, splice_mid _ _ _ (flat f (es.drop (i + 1))) _ (by simp [hX]; omega) (by rw [hP, hY])]
  rw [← List.append_assoc _ (flat f (es.drop (i + 1))), splice_mid _ _ (rest ++ T) z _ (by simp [hX, hY]; omega) (by rw [hQ, hz])]
  rw [e3]
  unfold pgL
  rw [hl, flat_append]
  simp
end

/-- A page's entry gets another value. -/
def XE.put (x e : XE) : XE := { x with V := e.V, B := e.B, n := e.n, q := e.q }

theorem put_row (es : List XE) (rest T : List Value) (i : Nat) (x e : XE) (h : es[i]? = some x) :
    (pgL XE.cells es rest T).set (1 + i * 2 + 1) (.slice e.B e.n e.q) = pgL XE.cells (es.set i (x.put e)) rest T := by
  obtain ⟨hi, rfl⟩ := List.getElem?_eq_some_iff.1 h
  have e0 : es = es.take i ++ es[i] :: es.drop (i + 1) := by rw [← List.drop_eq_getElem_cons hi, List.take_append_drop]
  have e1 : flat XE.cells es = flat XE.cells (es.take i) ++ (XE.cells es[i] ++ flat XE.cells (es.drop (i + 1))) := by
    conv => lhs; rw [e0]
    rw [flat_append, flat_cons]
  have e2 : es.set i (es[i].put e) = es.take i ++ es[i].put e :: es.drop (i + 1) := by rw [List.set_eq_take_append_cons_drop, if_pos hi]
  have hX : (flat XE.cells (es.take i)).length = i * 2 := by rw [flat_length XE.cells 2 XE.two, List.length_take, Nat.min_eq_left (by omega)]
  unfold pgL
  rw [List.length_set, e2, flat_append, flat_cons, e1]
  refine (sep_set _ (A := .int .i64 es.length :: (flat XE.cells (es.take i) ++ [.slice es[i].A es[i].m es[i].p])) (B := flat XE.cells (es.drop (i + 1)) ++ (rest ++ T)) (x := .slice es[i].B es[i].n es[i].q) (by simp [XE.cells]) (by simp [hX]; omega)).trans (by simp [XE.cells, XE.put])

/-! ### The root loses a page -/

theorem xgL_split (b0 : Nat) (X : List Nat) : ∃ A : List Value, A.length = 2 * X.length ∧ (∀ v ∈ A, v.oneCell' = true) ∧ ∀ q, (b0 :: X)[X.length]? = some q →
    .iface 123 (.pointer (some ⟨b0, 0, none⟩)) :: flat dbl X = A ++ [.iface 123 (.pointer (some ⟨q, 0, none⟩))] := by
  rcases List.eq_nil_or_concat X with h | ⟨Y, y, h⟩
  · subst h
    refine ⟨[], rfl, fun v hv => (by cases hv), fun q hq => ?_⟩
    have e : b0 = q := by simpa using hq
    subst e
    rfl
  · have h' : X = Y ++ [y] := by simpa using h
    subst h'
    refine ⟨.iface 123 (.pointer (some ⟨b0, 0, none⟩)) :: (flat dbl Y ++ [.pointer (some ⟨y, 0, none⟩)]), by simp [flat_length dbl 2 dbl_two]; omega, fun v hv => ?_, fun q hq => ?_⟩
    · rcases List.mem_cons.1 hv with rfl | hv
      · rfl
      · rcases List.mem_append.1 hv with hv | hv
        · unfold flat at hv
          obtain ⟨b, _, hb⟩ := List.mem_flatMap.1 hv
          simp [dbl] at hb
          rcases hb with rfl | rfl <;> rfl
        · obtain rfl := List.mem_singleton.1 hv
          rfl
    · obtain rfl : y = q := by simpa using hq
      rw [flat_append]
      simp [flat, dbl]

/-- The last page goes: nothing moves. -/
theorem drop_last (b0 q b : Nat) (X : List Nat) (rest : List Value) (hq : (b0 :: X)[X.length]? = some q) :
    ((xgL b0 (X ++ [b]) rest).set 0 (.int .i64 X.length)).set (1 + X.length * 2) (.iface 123 (.pointer (some ⟨q, 0, none⟩))) = xgL b0 X (dbl b ++ rest) := by
  obtain ⟨A, hA, _, h⟩ := xgL_split b0 X
  have h := h q hq
  unfold xgL
  rw [List.set_cons_zero, flat_append, show flat dbl [b] = dbl b by simp [flat]]
  have e : ∀ R : List Value, .iface 123 (.pointer (some ⟨b0, 0, none⟩)) :: (flat dbl X ++ R) = A ++ .iface 123 (.pointer (some ⟨q, 0, none⟩)) :: R := fun R => by
    rw [← List.cons_append, h]
    simp
  rw [List.append_assoc, e]
  exact (sep_set _ (A := .int .i64 X.length :: A) (B := dbl b ++ rest) (x := .iface 123 (.pointer (some ⟨q, 0, none⟩))) (by simp) (by simp [hA]; omega)).trans (by simp)

theorem two_last {α : Type} (V : List α) (n : Nat) (h : V.length = n + 2) : ∃ (Y : List α) (u1 u2 : α), V = Y ++ [u1, u2] ∧ Y.length = n := by
  have hd : (V.drop n).length = 2 := by rw [List.length_drop]; omega
  match hm : V.drop n, hd with
  | [u1, u2], _ => exact ⟨V.take n, u1, u2, by rw [← hm, List.take_append_drop], by rw [List.length_take]; omega⟩

/-- A page in the middle goes: those behind go one down. -/
theorem drop_mid (b0 q b b2 : Nat) (X Z : List Nat) (rest : List Value) (hq : (b0 :: X)[X.length]? = some q) (hr : 1 ≤ rest.length) :
    ∃ (M : List Value) (last : Nat) (r0 : Value) (R : List Value), M.length = (Z.length + 1) * 2 ∧ (∀ v ∈ M, v.oneCell' = true) ∧ rest = r0 :: R ∧ (b0 :: (X ++ b :: b2 :: Z))[X.length + Z.length + 2]? = some last ∧
      (∀ (j : Nat) (v : Value), M[j]? = some v → (xgL b0 (X ++ b :: b2 :: Z) rest)[1 + (X.length + 1) * 2 + j]? = some v) ∧
      (((((splice ((xgL b0 (X ++ b :: b2 :: Z) rest).set 0 (.int .i64 (X.length + Z.length + 1 : Nat))) (1 + X.length * 2) M).set (1 + (X.length + Z.length + 1) * 2) (.iface 123 (.pointer (some ⟨last, 0, none⟩)))).set (1 + (X.length + Z.length + 1) * 2 + 1) (.pointer none)).set (1 + (X.length + Z.length + 2) * 2) .nilIface).set (1 + (X.length + Z.length + 2) * 2 + 1) (.pointer none)).set (1 + X.length * 2) (.iface 123 (.pointer (some ⟨q, 0, none⟩))) =
        xgL b0 (X ++ b2 :: Z) (.pointer none :: .nilIface :: .pointer none :: R) := by
  obtain ⟨A, hA, _, h⟩ := xgL_split b0 X
  have h := h q hq
  obtain ⟨r0, R, rfl⟩ : ∃ r0 R, rest = r0 :: R := by
    match rest, hr with
    | r0 :: R, _ => exact ⟨r0, R, rfl⟩
  obtain ⟨W, last, hl, hZ⟩ : ∃ (W : List Nat) (last : Nat), b2 :: Z = W ++ [last] ∧ W.length = Z.length := by
    rcases List.eq_nil_or_concat (b2 :: Z) with h | ⟨W, y, h⟩
    · cases h
    · refine ⟨W, y, by simpa using h, ?_⟩
      have := congrArg List.length h
      simp at this
      omega
  have hN : ∃ N : List Value, flat dbl (b2 :: Z) = N ++ [.iface 123 (.pointer (some ⟨last, 0, none⟩))] ∧ N.length = Z.length * 2 + 1 ∧ ∀ v ∈ N, v.oneCell' = true := by
    refine ⟨flat dbl W ++ [.pointer (some ⟨last, 0, none⟩)], ?_, by simp [flat_length dbl 2 dbl_two, hZ], fun v hv => ?_⟩
    · rw [hl, flat_append]
      simp [flat, dbl]
    · rcases List.mem_append.1 hv with hv | hv
      · unfold flat at hv
        obtain ⟨b, _, hb⟩ := List.mem_flatMap.1 hv
        simp [dbl] at hb
        rcases hb with rfl | rfl <;> rfl
      · obtain rfl := List.mem_singleton.1 hv
        rfl
  obtain ⟨N, hN, hNl, hN1⟩ := hN
  have hform : ∀ c : Value, c :: .iface 123 (.pointer (some ⟨b0, 0, none⟩)) :: (flat dbl (X ++ b :: b2 :: Z) ++ r0 :: R) =
      (c :: A) ++ ([.iface 123 (.pointer (some ⟨q, 0, none⟩)), .pointer (some ⟨b, 0, none⟩)] ++ ((.iface 123 (.pointer (some ⟨b, 0, none⟩)) :: N) ++ (.iface 123 (.pointer (some ⟨last, 0, none⟩)) :: r0 :: R))) := fun c => by
    have e2 : flat dbl (X ++ b :: b2 :: Z) = flat dbl X ++ (.pointer (some ⟨b, 0, none⟩) :: .iface 123 (.pointer (some ⟨b, 0, none⟩)) :: (N ++ [.iface 123 (.pointer (some ⟨last, 0, none⟩))])) := by
      rw [flat_append, flat_cons, hN]
      simp [dbl]
    have e3 : ∀ K : List Value, .iface 123 (.pointer (some ⟨b0, 0, none⟩)) :: (flat dbl X ++ K) = A ++ .iface 123 (.pointer (some ⟨q, 0, none⟩)) :: K := fun K => by
      rw [← List.cons_append, h]
      simp
    rw [e2, List.append_assoc, e3]
    simp
  refine ⟨.iface 123 (.pointer (some ⟨b, 0, none⟩)) :: N, last, r0, R, by simp [hNl]; omega, fun v hv => ?_, rfl, ?_, fun j v hv => ?_, ?_⟩
  · rcases List.mem_cons.1 hv with rfl | hv
    · rfl
    · exact hN1 v hv
  · rw [show b0 :: (X ++ b :: b2 :: Z) = (b0 :: X ++ [b]) ++ (W ++ [last]) by rw [← hl]; simp, List.getElem?_append_right (by simp)]
    rw [show X.length + Z.length + 2 - (b0 :: X ++ [b]).length = W.length by simp; omega, List.getElem?_append_right (Nat.le_refl _), Nat.sub_self]
    rfl
  · unfold xgL
    rw [hform, ← List.append_assoc (.int .i64 _ :: A)]
    refine mid_at _ (.iface 123 (.pointer (some ⟨b, 0, none⟩)) :: N) _ _ j v ?_ hv
    simp [hA]
    omega
  · obtain ⟨Y, u1, u2, hY, hYl⟩ := two_last (([.iface 123 (.pointer (some ⟨q, 0, none⟩)), .pointer (some ⟨b, 0, none⟩)] : List Value) ++ (.iface 123 (.pointer (some ⟨b, 0, none⟩)) :: N)) ((Z.length + 1) * 2) (by simp [hNl]; omega)
    unfold xgL
    rw [List.set_cons_zero, hform, ← List.append_assoc [_, _], hY, List.append_assoc Y, splice_mid _ Y _ (.iface 123 (.pointer (some ⟨b, 0, none⟩)) :: N) _ (by simp [hA]; omega) (by simp [hYl, hNl]; omega)]
    have s1 := sep_set ((.int .i64 (X.length + Z.length + 1 : Nat) :: A) ++ ((.iface 123 (.pointer (some ⟨b, 0, none⟩)) :: N) ++ ([u1, u2] ++ (.iface 123 (.pointer (some ⟨last, 0, none⟩)) :: r0 :: R)))) (A := .int .i64 (X.length + Z.length + 1 : Nat) :: (A ++ (.iface 123 (.pointer (some ⟨b, 0, none⟩)) :: N))) (B := u2 :: .iface 123 (.pointer (some ⟨last, 0, none⟩)) :: r0 :: R) (o := 1 + (X.length + Z.length + 1) * 2) (x := u1) (v := .iface 123 (.pointer (some ⟨last, 0, none⟩))) (by simp) (by simp [hA, hNl]; omega)
    rw [s1]
    have s2 := sep_set ((.int .i64 (X.length + Z.length + 1 : Nat) :: (A ++ (.iface 123 (.pointer (some ⟨b, 0, none⟩)) :: N))) ++ .iface 123 (.pointer (some ⟨last, 0, none⟩)) :: u2 :: .iface 123 (.pointer (some ⟨last, 0, none⟩)) :: r0 :: R) (A := .int .i64 (X.length + Z.length + 1 : Nat) :: (A ++ (.iface 123 (.pointer (some ⟨b, 0, none⟩)) :: N) ++ [.iface 123 (.pointer (some ⟨last, 0, none⟩))])) (B := .iface 123 (.pointer (some ⟨last, 0, none⟩)) :: r0 :: R) (o := 1 + (X.length + Z.length + 1) * 2 + 1) (x := u2) (v := .pointer none) (by simp) (by simp [hA, hNl]; omega)
    rw [s2]
    have s3 := sep_set ((.int .i64 (X.length + Z.length + 1 : Nat) :: (A ++ (.iface 123 (.pointer (some ⟨b, 0, none⟩)) :: N) ++ [.iface 123 (.pointer (some ⟨last, 0, none⟩))])) ++ .pointer none :: .iface 123 (.pointer (some ⟨last, 0, none⟩)) :: r0 :: R) (A := .int .i64 (X.length + Z.length + 1 : Nat) :: (A ++ (.iface 123 (.pointer (some ⟨b, 0, none⟩)) :: N) ++ [.iface 123 (.pointer (some ⟨last, 0, none⟩)), .pointer none])) (B := r0 :: R) (o := 1 + (X.length + Z.length + 2) * 2) (x := .iface 123 (.pointer (some ⟨last, 0, none⟩))) (v := .nilIface) (by simp) (by simp [hA, hNl]; omega)
    rw [s3]
    have s4 := sep_set ((.int .i64 (X.length + Z.length + 1 : Nat) :: (A ++ (.iface 123 (.pointer (some ⟨b, 0, none⟩)) :: N) ++ [.iface 123 (.pointer (some ⟨last, 0, none⟩)), .pointer none])) ++ .nilIface :: r0 :: R) (A := .int .i64 (X.length + Z.length + 1 : Nat) :: (A ++ (.iface 123 (.pointer (some ⟨b, 0, none⟩)) :: N) ++ [.iface 123 (.pointer (some ⟨last, 0, none⟩)), .pointer none, .nilIface])) (B := R) (o := 1 + (X.length + Z.length + 2) * 2 + 1) (x := r0) (v := .pointer none) (by simp) (by simp [hA, hNl]; omega)
    rw [s4]
    have s5 := sep_set ((.int .i64 (X.length + Z.length + 1 : Nat) :: (A ++ (.iface 123 (.pointer (some ⟨b, 0, none⟩)) :: N) ++ [.iface 123 (.pointer (some ⟨last, 0, none⟩)), .pointer none, .nilIface])) ++ .pointer none :: R) (A := .int .i64 (X.length + Z.length + 1 : Nat) :: A) (B := N ++ .iface 123 (.pointer (some ⟨last, 0, none⟩)) :: .pointer none :: .nilIface :: .pointer none :: R) (o := 1 + X.length * 2) (x := .iface 123 (.pointer (some ⟨b, 0, none⟩))) (v := .iface 123 (.pointer (some ⟨q, 0, none⟩))) (by simp) (by simp [hA]; omega)
    rw [s5, flat_append, hN]
    have e3 : ∀ K : List Value, .iface 123 (.pointer (some ⟨b0, 0, none⟩)) :: (flat dbl X ++ K) = A ++ .iface 123 (.pointer (some ⟨q, 0, none⟩)) :: K := fun K => by
      rw [← List.cons_append, h]
      simp
    rw [List.append_assoc, e3]
    simp
    omega

end Go.Proofs.YtffgkocokkhahaaDoor

/- (*x).extract: the root loses a page. -/
namespace Go.Proofs.YtffgkocokkhahaaDoor
open Go.RowKit

theorem splice_high {α : Type} (L cs : List α) (o k : Nat) (hk : o + cs.length ≤ k) (ho : o + cs.length ≤ L.length) : (splice L o cs)[k]? = L[k]? := by
  unfold splice
  rw [List.getElem?_append_right (by rw [List.length_take]; omega), List.getElem?_append_right (by rw [List.length_take]; omega), List.getElem?_drop]
  congr 1
  rw [List.length_take]
  omega

set_option maxHeartbeats 1000000 in
theorem zxe_any (w : World) : Calls Tryd.prog 101 #[] w fun e w' => e = .returned (.agg #[.nilIface, .pointer none]) ∧ Below w.heap.size w w' := by
  go_enter Tryd.func101, Tryd.ntmps101
  go_wp2
  exact bodyPost_ret (v := .agg #[.nilIface, .pointer none]) (by simp [results, go_sem]) rfl ⟨rfl, (Below.refl _ _).alloc (Nat.le_refl _) _⟩

set_option maxRecDepth 100000 in
set_option maxHeartbeats 1000000 in
/-- The last page goes. -/
theorem xext_last (x b0 b : Nat) (X : List Nat) (rest : List Value) (w : World) (hx : RootAt w x b0 (X ++ [b]) rest) (hX : X.length ≤ 250) :
    Calls Tryd.prog 126 #[.pointer (some ⟨x, 0, none⟩), .int .i64 X.length] w fun y w' => y = .returned (.tuple #[]) ∧
      w'.heap[x]? = some (.cells ((xgL b0 (X ++ [b]) rest).set 0 (.int .i64 X.length)).toArray 137 (0, 0)) ∧ Chg (fun k => k = x) w w' := by
  obtain ⟨n, hn⟩ : ∃ n, n = X.length := ⟨_, rfl⟩
  obtain ⟨n1, hn1⟩ : ∃ n1, n1 = n + 1 := ⟨_, rfl⟩
  have cx0 : w.cell? ⟨x, 0, none⟩ = some (.int .i64 n1) := by rw [hx.cell, hn1, hn]; simp [xgL]
  have fx0 : w.frozen? ⟨x, 0, none⟩ = false := hx.free 0
  have hw : ((n1 : Int) - 1) = (n : Int) := by omega
  have hlt : ((n : Int) < n) = False := by simp
  have HX := Lib.hid hx
  rw [← hn] at hX ⊢
  clear hx hn hn1
  go_enter Tryd.func126, Tryd.ntmps126
  go_wp2
  go_end0
  refine ⟨rfl, ?_, Chg.setCell (Chg.refl (fun k => k = x) w) (p := ⟨x, 0, none⟩) (.inl rfl) _⟩
  rw [heap_setCell_at, HX.out.heap]
  simp [updObj_cells]

set_option maxRecDepth 100000 in
set_option maxHeartbeats 1000000 in
/-- A page in the middle goes. -/
theorem xext_mid (x b0 q b b2 : Nat) (X Z : List Nat) (rest : List Value) (w : World) (hx : RootAt w x b0 (X ++ b :: b2 :: Z) rest) (hX : X.length + Z.length ≤ 240) (hq : (b0 :: X)[X.length]? = some q) :
    Calls Tryd.prog 126 #[.pointer (some ⟨x, 0, none⟩), .int .i64 X.length] w fun y w' => y = .returned (.tuple #[]) ∧
      (∃ L rest' : List Value, w'.heap[x]? = some (.cells L.toArray 137 (0, 0)) ∧ L.set (1 + X.length * 2) (.iface 123 (.pointer (some ⟨q, 0, none⟩))) = xgL b0 (X ++ b2 :: Z) rest' ∧
        (X ++ b2 :: Z).length * 2 + rest'.length = 515 ∧ L.length = 517 ∧ ∀ v ∈ rest', v.oneCell' = true) ∧ Chg (fun k => k = x) w w' := by
  have hroom := hx.room
  have hone := hx.one
  have hlen : (xgL b0 (X ++ b :: b2 :: Z) rest).length = 517 := by rw [xgL_length]; omega
  simp only [List.length_append, List.length_cons] at hroom
  obtain ⟨M, last, r0, R, hM, hM1, hrest, hlast, hsrc, hfin⟩ := drop_mid b0 q b b2 X Z rest hq (by omega)
  have hch : w.cell? ⟨x, 1 + (X.length + Z.length + 2) * 2, none⟩ = some (.iface 123 (.pointer (some ⟨last, 0, none⟩))) := hx.ch hlast
  have hh := hx.heap
  generalize hL0 : xgL b0 (X ++ b :: b2 :: Z) rest = L0 at *
  obtain ⟨i, hi⟩ : ∃ i, i = X.length := ⟨_, rfl⟩
  obtain ⟨z, hz⟩ : ∃ z, z = Z.length := ⟨_, rfl⟩
  obtain ⟨n, hn⟩ : ∃ n, n = i + z + 1 := ⟨_, rfl⟩
  obtain ⟨n1, hn1⟩ : ∃ n1, n1 = n + 1 := ⟨_, rfl⟩
  have cx0 : w.cell? ⟨x, 0, none⟩ = some (.int .i64 n1) := by rw [cell_of_heap hh, ← hL0, hn1, hn, hi, hz]; simp [xgL]; omega
  have fx0 : w.frozen? ⟨x, 0, none⟩ = false := free_of_heap hh 0
  rw [← hi, ← hz, show i + z + 1 = n by omega] at hfin
  rw [← hi] at hsrc ⊢
  rw [← hz] at hM
  rw [← hi, ← hz, show i + z + 2 = n1 by omega] at hch
  rw [show i + z + 2 = n1 by omega] at hfin
  obtain ⟨L1, hL1⟩ : ∃ L1, L1 = L0.set 0 (.int .i64 n) := ⟨_, rfl⟩
  have hL1l : L1.length = 517 := by rw [hL1, List.length_set]; exact hlen
  rw [← hL1] at hfin
  obtain ⟨L, hL⟩ : ∃ L, splice L1 (1 + i * 2) M = L := ⟨_, rfl⟩
  have hLl : L.length = 517 := by rw [← hL, length_splice _ _ _ (by rw [hL1l, hM]; omega)]; exact hL1l
  have hch2 : L[1 + n1 * 2]? = some (.iface 123 (.pointer (some ⟨last, 0, none⟩))) := by
    rw [cell_of_heap hh, List.getElem?_toArray] at hch
    rw [← hL, splice_high _ _ _ _ (by rw [hM]; omega) (by rw [hL1l, hM]; omega), hL1, List.getElem?_set_ne (by omega)]
    exact hch
  rw [hL] at hfin
  have hw : ((n1 : Int) - 1) = (n : Int) := by omega
  have hnw : ((n : Int) + 1) = (n1 : Int) := by omega
  have hnw2 : IntKind.i64.wrap (n1 : Int) = (n1 : Int) := IntWalk.i64_in _ (by omega)
  have hic : (i : Int) < n := by omega
  obtain ⟨k, hk⟩ : ∃ k, k = i + 1 := ⟨_, rfl⟩
  have hkw : ((i : Int) + 1) = (k : Int) := by omega
  have hkw2 : IntKind.i64.wrap (k : Int) = (k : Int) := IntWalk.i64_in _ (by omega)
  have hs1 := run_cut_l (P := Tryd.prog) arrxe szxe x 1 i (by omega)
  have hs2 := run_cut_lh (P := Tryd.prog) arrxe szxe x 1 k n1 (by omega) (by omega) (by omega)
  have b1 : (n1 : Int) < 258 := by omega
  have b2' : (0 : Int) ≤ n1 := by omega
  have b3 : (n : Int) < 258 := by omega
  have b4 : (0 : Int) ≤ n := by omega
  have HM := Lib.hid (show M.length = (z + 1) * 2 from hM)
  have HM1 := Lib.hid hM1
  have HSRC := Lib.hid hsrc
  have HFIN := Lib.hid hfin
  have HH := Lib.hid hh
  have HL1 := Lib.hid hL1
  have HL1l := Lib.hid hL1l
  have HL := Lib.hid hL
  have HLl := Lib.hid hLl
  have HCH := Lib.hid hch2
  have HK := Lib.hid hk
  have HN := Lib.hid (show n = i + z + 1 ∧ n1 = n + 1 from ⟨hn, hn1⟩)
  have HR : Hid ((X ++ b2 :: Z).length * 2 + (.pointer none :: .nilIface :: .pointer none :: R : List Value).length = 515) := Lib.hid (by rw [hrest] at hroom; simp at hroom ⊢; omega)
  have HO : Hid (∀ v ∈ (.pointer none :: .nilIface :: .pointer none :: R : List Value), v.oneCell' = true) := Lib.hid (fun v hv => by
    simp only [List.mem_cons] at hv
    rcases hv with rfl | rfl | rfl | hv
    · rfl
    · rfl
    · rfl
    · exact hone v (by rw [hrest]; exact List.mem_cons_of_mem _ hv))
  clear hM hM1 hsrc hfin hh hL1 hL1l hL hLl hch2 hch hk hn hn1 hx hroom hone hlen hrest hlast hi hz hL0
  go_enter Tryd.func126, Tryd.ntmps126
  go_wp2
  obtain ⟨w1, hw1⟩ : ∃ w1, w1 = w.setCell ⟨x, 0, none⟩ (.int .i64 n) := ⟨_, rfl⟩
  rw [← hw1]
  have HG1 := Lib.hid (show w1.heap[x]? = some (.cells L1.toArray 137 (0, 0)) by
    rw [hw1, heap_setCell_at, HH.out, HL1.out]
    simp [updObj_cells])
  have HC1 := Lib.hid (show Chg (fun b => b = x) w w1 by rw [hw1]; exact Chg.setCell (Chg.refl (fun b => b = x) w) (p := ⟨x, 0, none⟩) (.inl rfl) _)
  have dx0 : w1.cell? ⟨x, 0, none⟩ = some (.int .i64 n) := by
    rw [cell_of_heap HG1.out, List.getElem?_toArray, HL1.out]
    have := HL1l.out
    rw [HL1.out, List.length_set] at this
    rw [List.getElem?_set_self (by omega)]
  clear hw1 cx0 fx0
  go_still_tail 16, (by kernel_rfl)
  change wpList _ _ _ _ _ w1.drew
  refine wpList_copy_rows rfl (.tmp 21) (.tmp 32) 207 207 rfl 134 2 Tryd.underlying207 szxe (some ⟨x, 1 + i * 2, none⟩) (some ⟨x, 1 + k * 2, none⟩) (258 - i) (258 - i) (n1 - k) (258 - k) rfl rfl
    x (1 + i * 2) L1.toArray 137 HG1.out M ?c2 (by omega) ?c3 ?c4 HM1.out ?_
  case c2 =>
    have := HN.out
    rw [HM.out, HK.out]
    show (z + 1) * 2 = min (n1 - (i + 1)) (258 - i) * 2
    rw [Nat.min_eq_left (by omega)]
    omega
  case c3 => exact fun _ => ⟨rfl, _, rfl, fun j v h => by rw [add_mk]; show w1.cell? ⟨x, 1 + k * 2 + j, none⟩ = some v; rw [cell_of_heap HG1.out, List.getElem?_toArray, HK.out, HL1.out, List.getElem?_set_ne (by omega)]; exact HSRC.out j v h⟩
  case c4 => have := HN.out; rw [HM.out, List.size_toArray, HL1l.out]; omega
  intro w2 HG2 HC2
  rw [List.toList_toArray, HL.out] at HG2
  have HC12 := Lib.hid (HC1.out.trans ((Chg.refl _ w1).drew.trans HC2.out))
  have hL00 : L[0]? = some (.int .i64 n) := by
    rw [← HL.out, splice_low _ _ _ 0 (by omega) (by rw [HL1l.out]; omega)]
    have := HL1l.out
    rw [HL1.out, List.length_set] at this
    rw [HL1.out, List.getElem?_set_self (by omega)]
  have HL00 := Lib.hid hL00
  have ex0 : w2.cell? ⟨x, 0, none⟩ = some (.int .i64 n) := by rw [cell_of_heap HG2.out, List.getElem?_toArray]; exact HL00.out
  have ex1 : w2.cell? ⟨x, 1 + n1 * 2, none⟩ = some (.iface 123 (.pointer (some ⟨last, 0, none⟩))) := by rw [cell_of_heap HG2.out, List.getElem?_toArray]; exact HCH.out
  obtain ⟨u1, cu1⟩ : ∃ u, w2.cell? ⟨x, 1 + n * 2, none⟩ = some u := ⟨L[1 + n * 2]'(by rw [HLl.out]; omega), by rw [cell_of_heap HG2.out, List.getElem?_toArray]; exact List.getElem?_eq_getElem _⟩
  have fu1 : w2.frozen? ⟨x, 1 + n * 2, none⟩ = false := free_of_heap HG2.out _
  clear hs1 hs2 dx0 hL00
  go_wp2
  go_still_tail 20, (by kernel_rfl)
  change wpList _ _ _ _ _ w2.drew
  go_wp2
  obtain ⟨L3, hL3⟩ : ∃ L3, L3 = L.set (1 + n * 2) (.iface 123 (.pointer (some ⟨last, 0, none⟩))) := ⟨_, rfl⟩
  obtain ⟨w3, hw3⟩ : ∃ w3, w3 = w2.drew.setCell ⟨x, 1 + n * 2, none⟩ (.iface 123 (.pointer (some ⟨last, 0, none⟩))) := ⟨_, rfl⟩
  rw [show (w2.setCell ⟨x, 1 + n * 2, none⟩ (.iface 123 (.pointer (some ⟨last, 0, none⟩)))).drew = w3 from hw3.symm]
  have HG3 := Lib.hid (show w3.heap[x]? = some (.cells L3.toArray 137 (0, 0)) by
    rw [hw3, heap_setCell_at, heap_drew, HG2.out, hL3]
    simp [updObj_cells])
  have HC3 := Lib.hid (show Chg (fun b => b = x) w2 w3 by rw [hw3]; exact Chg.setCell (Chg.refl (fun b => b = x) w2).drew (p := ⟨x, _, none⟩) (.inl rfl) _)
  have fx0 : w3.cell? ⟨x, 0, none⟩ = some (.int .i64 n) := by rw [cell_of_heap HG3.out, List.getElem?_toArray, hL3, List.getElem?_set_ne (by omega)]; exact HL00.out
  obtain ⟨u2, cu2⟩ : ∃ u, w3.cell? ⟨x, 1 + n * 2 + 1, none⟩ = some u := ⟨L3[1 + n * 2 + 1]'(by rw [hL3, List.length_set, HLl.out]; omega), by rw [cell_of_heap HG3.out, List.getElem?_toArray]; exact List.getElem?_eq_getElem _⟩
  have fu2 : w3.frozen? ⟨x, 1 + n * 2 + 1, none⟩ = false := free_of_heap HG3.out _
  have HL3 := Lib.hid hL3
  clear hw3 hL3 ex0 ex1 cu1 fu1
  go_still_tail 9, (by kernel_rfl)
  change wpList _ _ _ _ _ w3.drew
  go_wp2
  obtain ⟨L4, hL4⟩ : ∃ L4, L4 = L3.set (1 + n * 2 + 1) (.pointer none) := ⟨_, rfl⟩
  obtain ⟨w4, hw4⟩ : ∃ w4, w4 = w3.drew.setCell ⟨x, 1 + n * 2 + 1, none⟩ (.pointer none) := ⟨_, rfl⟩
  rw [show (w3.setCell ⟨x, 1 + n * 2 + 1, none⟩ (.pointer none)).drew = w4 from hw4.symm]
  have HG4 := Lib.hid (show w4.heap[x]? = some (.cells L4.toArray 137 (0, 0)) by
    rw [hw4, heap_setCell_at, heap_drew, HG3.out, hL4]
    simp [updObj_cells])
  have HC4 := Lib.hid (show Chg (fun b => b = x) w3 w4 by rw [hw4]; exact Chg.setCell (Chg.refl (fun b => b = x) w3).drew (p := ⟨x, _, none⟩) (.inl rfl) _)
  have gx0 : w4.cell? ⟨x, 0, none⟩ = some (.int .i64 n) := by rw [cell_of_heap HG4.out, List.getElem?_toArray, hL4, List.getElem?_set_ne (by omega), HL3.out, List.getElem?_set_ne (by omega)]; exact HL00.out
  have hL4l : L4.length = 517 := by rw [hL4, List.length_set, HL3.out, List.length_set]; exact HLl.out
  obtain ⟨u3, cu3⟩ : ∃ u, w4.cell? ⟨x, 1 + n1 * 2, none⟩ = some u := ⟨L4[1 + n1 * 2]'(by rw [hL4l]; omega), by rw [cell_of_heap HG4.out, List.getElem?_toArray]; exact List.getElem?_eq_getElem _⟩
  obtain ⟨u4, cu4⟩ : ∃ u, w4.cell? ⟨x, 1 + n1 * 2 + 1, none⟩ = some u := ⟨L4[1 + n1 * 2 + 1]'(by rw [hL4l]; omega), by rw [cell_of_heap HG4.out, List.getElem?_toArray]; exact List.getElem?_eq_getElem _⟩
  have fu3 : w4.frozen? ⟨x, 1 + n1 * 2, none⟩ = false := free_of_heap HG4.out _
  have fu4 : w4.frozen? ⟨x, 1 + n1 * 2 + 1, none⟩ = false := free_of_heap HG4.out _
  have lxr : x < w4.heap.size := lt_of_heap HG4.out
  have HL4 := Lib.hid hL4
  have HL4l := Lib.hid hL4l
  clear hw4 hL4 hL4l fx0 cu2 fu2
  go_region_with (go_at_call 101; refine (zxe_any _).mono ?_; rintro y w5 ⟨rfl, hb5⟩; have dx := (hb5.cell (p := ⟨x, 0, none⟩) lxr).trans gx0; have du1 := (hb5.cell (p := ⟨x, 1 + n1 * 2, none⟩) lxr).trans cu3; have du2 := (hb5.cell (p := ⟨x, 1 + n1 * 2 + 1, none⟩) lxr).trans cu4; have gu1 := (hb5.frozen (p := ⟨x, 1 + n1 * 2, none⟩) lxr).trans fu3; have gu2 := (hb5.frozen (p := ⟨x, 1 + n1 * 2 + 1, none⟩) lxr).trans fu4; have HB5 : Hid (Below w4.heap.size w4 w5) := (by first | exact Lib.hid hb5 | exact Lib.hid ⟨hb5.os, hb5.tape, hb5.output, hb5.size, hb5.block⟩))
  all_goals go_wp2
  all_goals
    go_end0
    have k5 : Chg (fun b => b = x) w w5 := by first | exact ((HC12.out.trans HC3.out).trans HC4.out).trans (Chg.of_below HB5.out) | exact ((HC12.out.trans HC3.out).trans HC4.out).trans ((Chg.refl _ w4).drew.trans (Chg.of_below HB5.out))
    refine ⟨rfl, ⟨(L4.set (1 + n1 * 2) .nilIface).set (1 + n1 * 2 + 1) (.pointer none), _, ?_, ?_, HR.out, by rw [List.length_set, List.length_set]; exact HL4l.out, HO.out⟩, ?_⟩
    · simp only [heap_setCell_at, heap_below HG4.out HB5.out, Option.map_some, updObj_cells, List.setIfInBounds_toArray]
    · rw [HL4.out, HL3.out]
      exact HFIN.out
    · exact Chg.setCell (Chg.setCell k5 (p := ⟨x, _, none⟩) (.inl rfl) _) (p := ⟨x, _, none⟩) (.inl rfl) _

end Go.Proofs.YtffgkocokkhahaaDoor

/- (*tree).cat: two pages become one. PRINTED BY wip/tpl/gen_yct.py. -/
namespace Go.Proofs.YtffgkocokkhahaaDoor
open Go.RowKit
variable {G : Value}

theorem page_nx {w : World} {b : Nat} {es : List XE} {rest : List Value} {nx pv : Value} (h : PageAt w b es rest nx pv) : w.cell? ⟨b, 259, none⟩ = some nx := by
  have := h.room
  rw [h.cell, pgL_tail XE.cells 2 XE.two es rest _ 259 0 (by omega)]
  rfl
theorem page_pv {w : World} {b : Nat} {es : List XE} {rest : List Value} {nx pv : Value} (h : PageAt w b es rest nx pv) : w.cell? ⟨b, 260, none⟩ = some pv := by
  have := h.room
  rw [h.cell, pgL_tail XE.cells 2 XE.two es rest _ 260 1 (by omega)]
  rfl
theorem page_set_nx {w w' : World} {b : Nat} {es : List XE} {rest : List Value} {nx pv v : Value} (h : PageAt w b es rest nx pv) (hw : w'.heap[b]? = (w.setCell ⟨b, 259, none⟩ v).heap[b]?) : PageAt w' b es rest v pv := by
  refine ⟨?_, h.room, h.one⟩
  rw [hw, heap_setCell_at, h.heap]
  simp only [Option.map_some, updObj_cells, List.setIfInBounds_toArray, pg_tail es rest _ _ _ h.room]
theorem page_set_pv {w w' : World} {b : Nat} {es : List XE} {rest : List Value} {nx pv v : Value} (h : PageAt w b es rest nx pv) (hw : w'.heap[b]? = (w.setCell ⟨b, 260, none⟩ v).heap[b]?) : PageAt w' b es rest nx v := by
  refine ⟨?_, h.room, h.one⟩
  rw [hw, heap_setCell_at, h.heap]
  simp only [Option.map_some, updObj_cells, List.setIfInBounds_toArray, pg_tail2 es rest _ _ _ h.room]

set_option maxRecDepth 100000 in
set_option maxHeartbeats 1000000 in
theorem cat_one (t x q r b0 : Nat) (qs rs : List XE) (sq sr xr : List Value) (pq : Value) (c : Int) (fi la : Value) (ver : Int) (w : World)
    (hq : PageAt w q qs sq (.pointer (some ⟨r, 0, none⟩)) pq) (hr : PageAt w r rs sr (.pointer none) (.pointer (some ⟨q, 0, none⟩))) (ht : TreeW G w t c fi la (.iface 126 (ptr x)) ver) (hx : RootAt w x b0 [r] xr) (hqr : ¬ q = r) (hl : qs.length + rs.length ≤ 127) :
    Calls Tryd.prog 110 #[.pointer (some ⟨t, 0, none⟩), .pointer (some ⟨x, 0, none⟩), .pointer (some ⟨q, 0, none⟩), .pointer (some ⟨r, 0, none⟩), .int .i64 0] w
      (fun y w' => y = .returned (.tuple #[]) ∧ (∃ s, PageAt w' q (qs ++ rs) s (.pointer none) pq) ∧ (∃ v, TreeW G w' t c fi (.pointer (some ⟨q, 0, none⟩)) (.iface 123 (.pointer (some ⟨q, 0, none⟩))) v) ∧ Chg (fun b => b = t ∨ b = q ∨ b = r) w w') := by
  have hqt := tag_ne hq.heap ht (by decide)
  have hrt := tag_ne hr.heap ht (by decide)
  have hxt := tag_ne hx.heap ht (by decide)
  have hxq := tag_ne hx.heap hq.heap (by decide)
  have hxr := tag_ne hx.heap hr.heap (by decide)
  have htq : ¬ t = q := fun h => hqt h.symm
  have htr : ¬ t = r := fun h => hrt h.symm
  have htx : ¬ t = x := fun h => hxt h.symm
  have hqx : ¬ q = x := fun h => hxq h.symm
  have hrq : ¬ r = q := fun h => hqr h.symm
  have ct5 : w.cell? ⟨t, 5, none⟩ = some (.int .i64 ver) := cell_of_heap ht 5
  have ft5 : w.frozen? ⟨t, 5, none⟩ = false := free_of_heap ht 5
  have cr0 : w.cell? ⟨r, 0, none⟩ = some (.int .i64 rs.length) := by rw [hr.cell]; rfl
  obtain ⟨w1, hw1⟩ : ∃ w1, w1 = w.setCell ⟨t, 5, none⟩ (.int .i64 (wrap64 (ver + 1))) := ⟨_, rfl⟩
  have hc1 : Chg (fun b => b = t) w w1 := by rw [hw1]; exact Chg.setCell (Chg.refl (fun b => b = t) w) (p := ⟨t, 5, none⟩) (.inl rfl) _
  have HC1 := Lib.hid hc1
  have HT1 := Lib.hid (show TreeW G w1 t c fi la (.iface 126 (ptr x)) (wrap64 (ver + 1)) by
    unfold TreeW
    rw [hw1, heap_setCell_at, show w.heap[t]? = _ from ht]
    rfl)
  have HQ1 := Lib.hid (hq.chg hc1 hqt)
  have HR1 := Lib.hid (hr.chg hc1 hrt)
  have HX1 := Lib.hid (hx.chg hc1 hxt)
  have HLEN := Lib.hid hl
  have hcnt : ((1 : Int) < 1) = False := by decide
  clear hq hr ht hx hc1
  go_enter Tryd.func110, Tryd.ntmps110
  go_wp2_with ((go_at_call 103; rw [← hw1]; refine (mvL_any q r rs.length qs rs _ _ _ _ _ _ w1 HQ1.out HR1.out hqr (Nat.le_refl _) (by have := HLEN.out; omega) (by have := HLEN.out; omega) (by have := HLEN.out; omega)).mono ?_; rintro y w2 ⟨rfl, ⟨s1, hp1⟩, ⟨s2, hp2⟩, hc2⟩; rw [List.take_length] at hp1; have HQ2 := Lib.hid hp1; have HT2 := Lib.hid (HT1.out.chg hc2 (by rintro (h | h); exact htq h; exact htr h)); have HX2 := Lib.hid (HX1.out.chg hc2 (by rintro (h | h); exact hxq h; exact hxr h)); have rn := page_nx hp2; have qn := page_nx hp1; have fqn := hp1.free 259; have lw2 := hp1.lt; have tl := cell_of_heap HT2.out 3; have ftl := free_of_heap HT2.out 3; have x0 : w2.cell? ⟨x, 0, none⟩ = some (.int .i64 [r].length) := (by rw [HX2.out.cell]; rfl); have tr := cell_of_heap HT2.out 4; have ftr := free_of_heap HT2.out 4; have HC2 := Lib.hid hc2; clear hp1 hp2 hc2))
  first | go_end0 | refine bodyPost_ret (results_none rfl _ _ _) rfl ?_
  have k2 : Chg (fun b => b = t ∨ b = q ∨ b = r) w w2 := ((HC1.out.mono (T := fun b => b = t ∨ b = q ∨ b = r) (fun k _ h => .inl h)).next HC2.out (fun k _ h => .inr h))
  have k3 : Chg (fun b => b = t ∨ b = q ∨ b = r) w ((w2.setCell ⟨t, 3, none⟩ (.pointer (some ⟨q, 0, none⟩))).setCell ⟨q, 259, none⟩ (.pointer none)) := Chg.setCell (Chg.setCell k2 (p := ⟨t, 3, none⟩) (.inl (.inl rfl)) _) (p := ⟨q, 259, none⟩) (.inl (.inr (.inl rfl))) _
  have q3 : PageAt ((w2.setCell ⟨t, 3, none⟩ (.pointer (some ⟨q, 0, none⟩))).setCell ⟨q, 259, none⟩ (.pointer none)) q (qs ++ rs) s1 (.pointer none) pq := page_set_nx (HQ2.out.chg (Chg.setCell (Chg.refl (fun b => b = t) w2) (p := ⟨t, 3, none⟩) (.inl rfl) _) hqt) rfl
  have t3 : TreeW G ((w2.setCell ⟨t, 3, none⟩ (.pointer (some ⟨q, 0, none⟩))).setCell ⟨q, 259, none⟩ (.pointer none)) t c fi (.pointer (some ⟨q, 0, none⟩)) (.iface 126 (ptr x)) (wrap64 (ver + 1)) := by
    unfold TreeW
    rw [heap_setCell_ne _ _ _ _ _ htq, heap_setCell_at, show w2.heap[t]? = _ from HT2.out]
    rfl
  refine ⟨rfl, ⟨s1, q3.chg (Chg.setCell (Chg.refl (fun b => b = t) _) (p := ⟨t, 4, none⟩) (.inl rfl) _) hqt⟩, ⟨wrap64 (ver + 1), ?_⟩, Chg.setCell k3 (p := ⟨t, 4, none⟩) (.inl (.inl rfl)) _⟩
  unfold TreeW
  rw [heap_setCell_at, show ((w2.setCell ⟨t, 3, none⟩ (.pointer (some ⟨q, 0, none⟩))).setCell ⟨q, 259, none⟩ (.pointer none)).heap[t]? = _ from t3]
  rfl

set_option maxRecDepth 100000 in
set_option maxHeartbeats 1000000 in
theorem cat_last (t x q r b0 : Nat) (X : List Nat) (qs rs : List XE) (sq sr xr : List Value) (pq : Value) (c : Int) (fi la : Value) (ver : Int) (w : World)
    (hq : PageAt w q qs sq (.pointer (some ⟨r, 0, none⟩)) pq) (hr : PageAt w r rs sr (.pointer none) (.pointer (some ⟨q, 0, none⟩))) (ht : TreeW G w t c fi la (.iface 126 (ptr x)) ver) (hx : RootAt w x b0 (X ++ [r]) xr) (hqr : ¬ q = r) (hl : qs.length + rs.length ≤ 127) (hX : 1 ≤ X.length) (hX2 : X.length ≤ 240) (hbq : (b0 :: X)[X.length]? = some q) :
    Calls Tryd.prog 110 #[.pointer (some ⟨t, 0, none⟩), .pointer (some ⟨x, 0, none⟩), .pointer (some ⟨q, 0, none⟩), .pointer (some ⟨r, 0, none⟩), .int .i64 X.length] w
      (fun y w' => y = .returned (.tuple #[]) ∧ (∃ s, PageAt w' q (qs ++ rs) s (.pointer none) pq) ∧ (∃ v, TreeW G w' t c fi (.pointer (some ⟨q, 0, none⟩)) (.iface 126 (ptr x)) v) ∧ (∃ s, RootAt w' x b0 X s) ∧ Chg (fun b => (b = t ∨ b = q ∨ b = r) ∨ b = x) w w') := by
  have hqt := tag_ne hq.heap ht (by decide)
  have hrt := tag_ne hr.heap ht (by decide)
  have hxt := tag_ne hx.heap ht (by decide)
  have hxq := tag_ne hx.heap hq.heap (by decide)
  have hxr := tag_ne hx.heap hr.heap (by decide)
  have htq : ¬ t = q := fun h => hqt h.symm
  have htr : ¬ t = r := fun h => hrt h.symm
  have htx : ¬ t = x := fun h => hxt h.symm
  have hqx : ¬ q = x := fun h => hxq h.symm
  have hrq : ¬ r = q := fun h => hqr h.symm
  have ct5 : w.cell? ⟨t, 5, none⟩ = some (.int .i64 ver) := cell_of_heap ht 5
  have ft5 : w.frozen? ⟨t, 5, none⟩ = false := free_of_heap ht 5
  have cr0 : w.cell? ⟨r, 0, none⟩ = some (.int .i64 rs.length) := by rw [hr.cell]; rfl
  obtain ⟨w1, hw1⟩ : ∃ w1, w1 = w.setCell ⟨t, 5, none⟩ (.int .i64 (wrap64 (ver + 1))) := ⟨_, rfl⟩
  have hc1 : Chg (fun b => b = t) w w1 := by rw [hw1]; exact Chg.setCell (Chg.refl (fun b => b = t) w) (p := ⟨t, 5, none⟩) (.inl rfl) _
  have HC1 := Lib.hid hc1
  have HT1 := Lib.hid (show TreeW G w1 t c fi la (.iface 126 (ptr x)) (wrap64 (ver + 1)) by
    unfold TreeW
    rw [hw1, heap_setCell_at, show w.heap[t]? = _ from ht]
    rfl)
  have HQ1 := Lib.hid (hq.chg hc1 hqt)
  have HR1 := Lib.hid (hr.chg hc1 hrt)
  have HX1 := Lib.hid (hx.chg hc1 hxt)
  have HLEN := Lib.hid hl
  clear hq hr ht hx hc1
  have k1 : (X.length : Int) < 258 := by omega
  have k2 : (0 : Int) ≤ X.length := by omega
  have hbl : (X ++ [r]).length = X.length + 1 := by simp
  obtain ⟨bl, hbl2⟩ : ∃ bl, bl = (X ++ [r]).length := ⟨_, rfl⟩
  have hcnt : (1 : Int) < bl := by omega
  have HBL := Lib.hid hbl2
  clear hbl hbl2
  go_enter Tryd.func110, Tryd.ntmps110
  go_wp2_with (first | (go_at_call 103; rw [← hw1]; refine (mvL_any q r rs.length qs rs _ _ _ _ _ _ w1 HQ1.out HR1.out hqr (Nat.le_refl _) (by have := HLEN.out; omega) (by have := HLEN.out; omega) (by have := HLEN.out; omega)).mono ?_; rintro y w2 ⟨rfl, ⟨s1, hp1⟩, ⟨s2, hp2⟩, hc2⟩; rw [List.take_length] at hp1; have HQ2 := Lib.hid hp1; have HT2 := Lib.hid (HT1.out.chg hc2 (by rintro (h | h); exact htq h; exact htr h)); have HX2 := Lib.hid (HX1.out.chg hc2 (by rintro (h | h); exact hxq h; exact hxr h)); have rn := page_nx hp2; have qn := page_nx hp1; have fqn := hp1.free 259; have lw2 := hp1.lt; have tl := cell_of_heap HT2.out 3; have ftl := free_of_heap HT2.out 3; have x0 : w2.cell? ⟨x, 0, none⟩ = some (.int .i64 bl) := (by rw [HX2.out.cell, HBL.out]; rfl); have HC2 := Lib.hid hc2; clear hp1 hp2 hc2) | (go_at_call 126; refine (xext_last x b0 r X xr _ (HX2.out.chg (Chg.setCell (Chg.setCell (Chg.refl (fun b => b = t ∨ b = q) w2) (p := ⟨t, 3, none⟩) (.inl (.inl rfl)) _) (p := ⟨q, 259, none⟩) (.inl (.inr rfl)) _) (by rintro (h | h); exact hxt h; exact hxq h)) (by omega)).mono ?_; rintro y w4 ⟨rfl, hx4, hc4⟩; have HX4 := Lib.hid hx4; have HC4 := Lib.hid hc4; have xk : w4.cell? ⟨x, 1 + X.length * 2, none⟩ = some (.iface 123 (.pointer (some ⟨q, 0, none⟩))) := (by rw [cell_of_heap hx4, List.getElem?_toArray, List.getElem?_set_ne (by omega)]; have h1 := HX2.out.ch (j := X.length) (b := q) (by rw [← List.cons_append, List.getElem?_append_left (by simp)]; exact hbq); rw [HX2.out.cell] at h1; exact h1); have fxk := free_of_heap hx4 (1 + X.length * 2); clear hx4 hc4))
  first | go_end0 | refine bodyPost_ret (results_none rfl _ _ _) rfl ?_
  have k2 : Chg (fun b => (b = t ∨ b = q ∨ b = r) ∨ b = x) w w2 := ((HC1.out.mono (T := fun b => (b = t ∨ b = q ∨ b = r) ∨ b = x) (fun k _ h => .inl (.inl h))).next HC2.out (fun k _ h => .inl (.inr h)))
  have k3 : Chg (fun b => (b = t ∨ b = q ∨ b = r) ∨ b = x) w ((w2.setCell ⟨t, 3, none⟩ (.pointer (some ⟨q, 0, none⟩))).setCell ⟨q, 259, none⟩ (.pointer none)) := Chg.setCell (Chg.setCell k2 (p := ⟨t, 3, none⟩) (.inl (.inl (.inl rfl))) _) (p := ⟨q, 259, none⟩) (.inl (.inl (.inr (.inl rfl)))) _
  have q3 : PageAt ((w2.setCell ⟨t, 3, none⟩ (.pointer (some ⟨q, 0, none⟩))).setCell ⟨q, 259, none⟩ (.pointer none)) q (qs ++ rs) s1 (.pointer none) pq := page_set_nx (HQ2.out.chg (Chg.setCell (Chg.refl (fun b => b = t) w2) (p := ⟨t, 3, none⟩) (.inl rfl) _) hqt) rfl
  have t3 : TreeW G ((w2.setCell ⟨t, 3, none⟩ (.pointer (some ⟨q, 0, none⟩))).setCell ⟨q, 259, none⟩ (.pointer none)) t c fi (.pointer (some ⟨q, 0, none⟩)) (.iface 126 (ptr x)) (wrap64 (ver + 1)) := by
    unfold TreeW
    rw [heap_setCell_ne _ _ _ _ _ htq, heap_setCell_at, show w2.heap[t]? = _ from HT2.out]
    rfl
  have k5 := HC4.out.trans (Chg.setCell (Chg.refl (fun b => b = x) w4) (p := ⟨x, 1 + X.length * 2, none⟩) (.inl rfl) (.iface 123 (.pointer (some ⟨q, 0, none⟩))))
  refine ⟨rfl, ⟨s1, q3.chg k5 hqx⟩, ⟨wrap64 (ver + 1), t3.chg k5 htx⟩, ?_, k3.next k5 (fun b _ h => by rw [h]; exact .inr rfl)⟩
  refine ⟨dbl r ++ xr, ?_, by have := HX2.out.room; simp at this ⊢; simp [dbl]; omega, fun v hv => ?_⟩
  · rw [heap_setCell_at, HX4.out, ← drop_last b0 q r X xr hbq]
    simp [updObj_cells]
  · rcases List.mem_append.1 hv with h | h
    · simp [dbl] at h
      rcases h with rfl | rfl <;> rfl
    · exact HX2.out.one v h

set_option maxRecDepth 100000 in
set_option maxHeartbeats 1000000 in
theorem cat_mid (t x q r b0 : Nat) (X : List Nat) (nb : Nat) (Z : List Nat) (ns : List XE) (sn : List Value) (nn : Value) (qs rs : List XE) (sq sr xr : List Value) (pq : Value) (c : Int) (fi la : Value) (ver : Int) (w : World)
    (hq : PageAt w q qs sq (.pointer (some ⟨r, 0, none⟩)) pq) (hr : PageAt w r rs sr (.pointer (some ⟨nb, 0, none⟩)) (.pointer (some ⟨q, 0, none⟩))) (ht : TreeW G w t c fi la (.iface 126 (ptr x)) ver) (hx : RootAt w x b0 (X ++ r :: nb :: Z) xr) (hqr : ¬ q = r) (hl : qs.length + rs.length ≤ 127) (hX2 : X.length + Z.length ≤ 230) (hbq : (b0 :: X)[X.length]? = some q) (hn : PageAt w nb ns sn nn (.pointer (some ⟨r, 0, none⟩))) (hnq : ¬ nb = q) (hnr : ¬ nb = r) :
    Calls Tryd.prog 110 #[.pointer (some ⟨t, 0, none⟩), .pointer (some ⟨x, 0, none⟩), .pointer (some ⟨q, 0, none⟩), .pointer (some ⟨r, 0, none⟩), .int .i64 X.length] w
      (fun y w' => y = .returned (.tuple #[]) ∧ (∃ s, PageAt w' q (qs ++ rs) s (.pointer (some ⟨nb, 0, none⟩)) pq) ∧ (∃ v, TreeW G w' t c fi la (.iface 126 (ptr x)) v) ∧ (∃ s, RootAt w' x b0 (X ++ nb :: Z) s) ∧ PageAt w' nb ns sn nn (.pointer (some ⟨q, 0, none⟩)) ∧ Chg (fun b => ((b = t ∨ b = q ∨ b = r) ∨ b = x) ∨ b = nb) w w') := by
  have hqt := tag_ne hq.heap ht (by decide)
  have hrt := tag_ne hr.heap ht (by decide)
  have hxt := tag_ne hx.heap ht (by decide)
  have hxq := tag_ne hx.heap hq.heap (by decide)
  have hxr := tag_ne hx.heap hr.heap (by decide)
  have hnt := tag_ne hn.heap ht (by decide)
  have hxn := tag_ne hx.heap hn.heap (by decide)
  have htq : ¬ t = q := fun h => hqt h.symm
  have htr : ¬ t = r := fun h => hrt h.symm
  have htx : ¬ t = x := fun h => hxt h.symm
  have hqx : ¬ q = x := fun h => hxq h.symm
  have hrq : ¬ r = q := fun h => hqr h.symm
  have htn : ¬ t = nb := fun h => hnt h.symm
  have hqn : ¬ q = nb := fun h => hnq h.symm
  have ct5 : w.cell? ⟨t, 5, none⟩ = some (.int .i64 ver) := cell_of_heap ht 5
  have ft5 : w.frozen? ⟨t, 5, none⟩ = false := free_of_heap ht 5
  have cr0 : w.cell? ⟨r, 0, none⟩ = some (.int .i64 rs.length) := by rw [hr.cell]; rfl
  obtain ⟨w1, hw1⟩ : ∃ w1, w1 = w.setCell ⟨t, 5, none⟩ (.int .i64 (wrap64 (ver + 1))) := ⟨_, rfl⟩
  have hc1 : Chg (fun b => b = t) w w1 := by rw [hw1]; exact Chg.setCell (Chg.refl (fun b => b = t) w) (p := ⟨t, 5, none⟩) (.inl rfl) _
  have HC1 := Lib.hid hc1
  have HT1 := Lib.hid (show TreeW G w1 t c fi la (.iface 126 (ptr x)) (wrap64 (ver + 1)) by
    unfold TreeW
    rw [hw1, heap_setCell_at, show w.heap[t]? = _ from ht]
    rfl)
  have HQ1 := Lib.hid (hq.chg hc1 hqt)
  have HR1 := Lib.hid (hr.chg hc1 hrt)
  have HX1 := Lib.hid (hx.chg hc1 hxt)
  have HN1 := Lib.hid (hn.chg hc1 hnt)
  have HLEN := Lib.hid hl
  clear hq hr ht hx hc1 hn
  have k1 : (X.length : Int) < 258 := by omega
  have k2 : (0 : Int) ≤ X.length := by omega
  have hbl : (X ++ r :: nb :: Z).length = X.length + Z.length + 2 := by simp; omega
  obtain ⟨bl, hbl2⟩ : ∃ bl, bl = (X ++ r :: nb :: Z).length := ⟨_, rfl⟩
  have hcnt : (1 : Int) < bl := by omega
  have HBL := Lib.hid hbl2
  clear hbl hbl2
  go_enter Tryd.func110, Tryd.ntmps110
  go_wp2_with (first | (go_at_call 103; rw [← hw1]; refine (mvL_any q r rs.length qs rs _ _ _ _ _ _ w1 HQ1.out HR1.out hqr (Nat.le_refl _) (by have := HLEN.out; omega) (by have := HLEN.out; omega) (by have := HLEN.out; omega)).mono ?_; rintro y w2 ⟨rfl, ⟨s1, hp1⟩, ⟨s2, hp2⟩, hc2⟩; rw [List.take_length] at hp1; have HQ2 := Lib.hid hp1; have HT2 := Lib.hid (HT1.out.chg hc2 (by rintro (h | h); exact htq h; exact htr h)); have HX2 := Lib.hid (HX1.out.chg hc2 (by rintro (h | h); exact hxq h; exact hxr h)); have HN2 := Lib.hid (HN1.out.chg hc2 (by rintro (h | h); exact hnq h; exact hnr h)); have rn := page_nx hp2; have qn := page_nx hp1; have fqn := hp1.free 259; have lw2 := hp1.lt; have np := page_pv HN2.out; have fnp := HN2.out.free 260; have x0 : w2.cell? ⟨x, 0, none⟩ = some (.int .i64 bl) := (by rw [HX2.out.cell, HBL.out]; rfl); have HC2 := Lib.hid hc2; clear hp1 hp2 hc2) | (go_at_call 126; refine (xext_mid x b0 q r nb X Z xr _ (HX2.out.chg (Chg.setCell (Chg.setCell (Chg.refl (fun b => b = q ∨ b = nb) w2) (p := ⟨nb, 260, none⟩) (.inl (.inr rfl)) _) (p := ⟨q, 259, none⟩) (.inl (.inl rfl)) _) (by rintro (h | h); exact hxq h; exact hxn h)) (by omega) hbq).mono ?_; rintro y w4 ⟨rfl, ⟨L, rest', hx4, hfin, hroom', hLl, hone'⟩, hc4⟩; have HX4 := Lib.hid hx4; have HC4 := Lib.hid hc4; obtain ⟨xo, xk⟩ : ∃ u, w4.cell? ⟨x, 1 + X.length * 2, none⟩ = some u := ⟨L[1 + X.length * 2]'(by rw [hLl]; omega), by rw [cell_of_heap hx4, List.getElem?_toArray]; exact List.getElem?_eq_getElem _⟩; have fxk := free_of_heap hx4 (1 + X.length * 2); have HF := Lib.hid hfin; have HRM := Lib.hid hroom'; have HON := Lib.hid hone'; clear hx4 hc4 hfin hLl hroom' hone'))
  first | go_end0 | refine bodyPost_ret (results_none rfl _ _ _) rfl ?_
  have k2 : Chg (fun b => ((b = t ∨ b = q ∨ b = r) ∨ b = x) ∨ b = nb) w w2 := ((HC1.out.mono (T := fun b => ((b = t ∨ b = q ∨ b = r) ∨ b = x) ∨ b = nb) (fun k _ h => .inl (.inl (.inl h)))).next HC2.out (fun k _ h => .inl (.inl (.inr h))))
  have k3 : Chg (fun b => ((b = t ∨ b = q ∨ b = r) ∨ b = x) ∨ b = nb) w ((w2.setCell ⟨nb, 260, none⟩ (.pointer (some ⟨q, 0, none⟩))).setCell ⟨q, 259, none⟩ (.pointer (some ⟨nb, 0, none⟩))) := Chg.setCell (Chg.setCell k2 (p := ⟨nb, 260, none⟩) (.inl (.inr rfl)) _) (p := ⟨q, 259, none⟩) (.inl (.inl (.inl (.inr (.inl rfl))))) _
  have q3 : PageAt ((w2.setCell ⟨nb, 260, none⟩ (.pointer (some ⟨q, 0, none⟩))).setCell ⟨q, 259, none⟩ (.pointer (some ⟨nb, 0, none⟩))) q (qs ++ rs) s1 (.pointer (some ⟨nb, 0, none⟩)) pq := page_set_nx (HQ2.out.chg (Chg.setCell (Chg.refl (fun b => b = nb) w2) (p := ⟨nb, 260, none⟩) (.inl rfl) _) hqn) rfl
  have n3 : PageAt ((w2.setCell ⟨nb, 260, none⟩ (.pointer (some ⟨q, 0, none⟩))).setCell ⟨q, 259, none⟩ (.pointer (some ⟨nb, 0, none⟩))) nb ns sn nn (.pointer (some ⟨q, 0, none⟩)) := (page_set_pv HN2.out rfl : PageAt (w2.setCell ⟨nb, 260, none⟩ (.pointer (some ⟨q, 0, none⟩))) nb ns sn nn _).chg (Chg.setCell (Chg.refl (fun b => b = q) _) (p := ⟨q, 259, none⟩) (.inl rfl) _) hnq
  have t3 : TreeW G ((w2.setCell ⟨nb, 260, none⟩ (.pointer (some ⟨q, 0, none⟩))).setCell ⟨q, 259, none⟩ (.pointer (some ⟨nb, 0, none⟩))) t c fi la (.iface 126 (ptr x)) (wrap64 (ver + 1)) := HT2.out.chg (Chg.setCell (Chg.setCell (Chg.refl (fun b => b = q ∨ b = nb) w2) (p := ⟨nb, 260, none⟩) (.inl (.inr rfl)) _) (p := ⟨q, 259, none⟩) (.inl (.inl rfl)) _) (by rintro (h | h); exact htq h; exact htn h)
  have k5 := HC4.out.trans (Chg.setCell (Chg.refl (fun b => b = x) w4) (p := ⟨x, 1 + X.length * 2, none⟩) (.inl rfl) (.iface 123 (.pointer (some ⟨q, 0, none⟩))))
  refine ⟨rfl, ⟨s1, q3.chg k5 hqx⟩, ⟨wrap64 (ver + 1), t3.chg k5 htx⟩, ?_, n3.chg k5 (fun h => hxn h.symm), k3.next k5 (fun b _ h => by rw [h]; exact .inl (.inr rfl))⟩
  refine ⟨rest', ?_, HRM.out, HON.out⟩
  rw [heap_setCell_at, HX4.out, ← HF.out]
  simp [updObj_cells]

end Go.Proofs.YtffgkocokkhahaaDoor
