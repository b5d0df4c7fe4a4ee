/-
  laws.without: the values that are not NULL, as a list in memory.
-/
import Derived.Test.YtiijcmdfbgoafaaDoorLc0
namespace Go.Proofs.YtiijcmdfbgoafaaDoor
open Go.RowKit

def VV.cells (x : VV) : List Value := [.string x.k, .int .i64 x.n, .int .u64 x.u, .float .f64 x.f, .string x.s]
/-- The values that are not NULL. -/
def nonN (l : List VV) : List VV := l.filter fun x => !x.isNull
def flat (l : List VV) : List Value := l.flatMap VV.cells

theorem nonN_len (l : List VV) : (nonN l).length = cntL l l.length := by
  unfold nonN cntL
  rw [List.take_length]
theorem nonN_take (l : List VV) (k : Nat) : (nonN (l.take k)).length = cntL l k := rfl
theorem flat_len (l : List VV) : (flat l).length = l.length * 5 := by
  induction l with
  | nil => rfl
  | cons a l ih =>
    have : flat (a :: l) = a.cells ++ flat l := rfl
    rw [this, List.length_append, ih]
    simp [VV.cells]
    omega
theorem flat_append (a b : List VV) : flat (a ++ b) = flat a ++ flat b := by
  unfold flat
  exact List.flatMap_append
theorem flat_get {l : List VV} : ∀ {i : Nat} {x : VV}, l[i]? = some x → ∀ j, j < 5 → (flat l)[i * 5 + j]? = x.cells[j]? := by
  induction l with
  | nil => intro i x h; simp at h
  | cons a l ih =>
    intro i x h j hj
    have e : flat (a :: l) = a.cells ++ flat l := rfl
    have ha : a.cells.length = 5 := rfl
    cases i with
    | zero =>
      obtain rfl : a = x := by simpa using h
      rw [e, List.getElem?_append_left (by omega)]
      simp
    | succ i =>
      rw [e, List.getElem?_append_right (by omega), ha, show (i + 1) * 5 + j - 5 = i * 5 + j by omega]
      exact ih (by simpa using h) j hj
theorem nonN_step {l : List VV} {k : Nat} {x : VV} (h : l[k]? = some x) : nonN (l.take (k + 1)) = nonN (l.take k) ++ if x.isNull then [] else [x] := by
  unfold nonN
  rw [List.take_add_one, h, List.filter_append]
  cases hx : x.isNull <;> simp [hx]

theorem lat_of_own {w : World} {base : Nat} {e : TypeId} {A : Option Addr} {c : Nat} {m : List VV} (h : w.ownsRow base e 5 (.slice A m.length c) m.length (flat m)) : LAt w A m := by
  intro i x hx
  have hi : i < m.length := (List.getElem?_eq_some_iff.1 hx).1
  obtain ⟨g, cap, hv, _, hlt⟩ := h.form (by omega)
  have hA : A = some ⟨g, 0, none⟩ := by injection hv
  subst hA
  have hc := h.cells (g := g) rfl
  have ha : ∀ j, Addr.add ⟨g, 0, none⟩ j = ⟨g, j, none⟩ := by
    intro j
    unfold Addr.add
    split
    · rename_i h0; subst h0; rfl
    · simp
  have hg := fun j (hj : j < 5) => flat_get hx j hj
  refine ⟨_, rfl, ?_, ?_, ?_, ?_, ?_, ?_⟩
  · rw [ha]; exact hlt
  · exact hc (i * 5) _ (by have := hg 0 (by omega); simpa [VV.cells] using this)
  · have := hc (i * 5 + 1) _ (by have := hg 1 (by omega); simpa [VV.cells] using this); rw [ha] at this ⊢; exact this
  · have := hc (i * 5 + 2) _ (by have := hg 2 (by omega); simpa [VV.cells] using this); rw [ha] at this ⊢; exact this
  · have := hc (i * 5 + 3) _ (by have := hg 3 (by omega); simpa [VV.cells] using this); rw [ha] at this ⊢; exact this
  · have := hc (i * 5 + 4) _ (by have := hg 4 (by omega); simpa [VV.cells] using this); rw [ha] at this ⊢; exact this

theorem reads_one (w : World) (x : VV) (t : TypeId) : Reads (w.alloc (.cells #[.string x.k, .int .i64 x.n, .int .u64 x.u, .float .f64 x.f, .string x.s] t)) (w.heap.size + 1) 5 (some ⟨w.heap.size, 0, none⟩) 1 x.cells := by
  refine ⟨rfl, fun _ => ⟨_, rfl, Nat.lt_succ_self _, fun j u hu => ?_⟩⟩
  rcases j with _ | _ | _ | _ | _ | j
  · obtain rfl : Value.string x.k = u := by simpa [VV.cells] using hu
    exact World.cell?_alloc_mark w #[.string x.k, .int .i64 x.n, .int .u64 x.u, .float .f64 x.f, .string x.s] t (0, 0) 0
  · obtain rfl : Value.int .i64 x.n = u := by simpa [VV.cells] using hu
    exact World.cell?_alloc_mark w #[.string x.k, .int .i64 x.n, .int .u64 x.u, .float .f64 x.f, .string x.s] t (0, 0) 1
  · obtain rfl : Value.int .u64 x.u = u := by simpa [VV.cells] using hu
    exact World.cell?_alloc_mark w #[.string x.k, .int .i64 x.n, .int .u64 x.u, .float .f64 x.f, .string x.s] t (0, 0) 2
  · obtain rfl : Value.float .f64 x.f = u := by simpa [VV.cells] using hu
    exact World.cell?_alloc_mark w #[.string x.k, .int .i64 x.n, .int .u64 x.u, .float .f64 x.f, .string x.s] t (0, 0) 3
  · obtain rfl : Value.string x.s = u := by simpa [VV.cells] using hu
    exact World.cell?_alloc_mark w #[.string x.k, .int .i64 x.n, .int .u64 x.u, .float .f64 x.f, .string x.s] t (0, 0) 4
  · simp [VV.cells] at hu

theorem info_value : (Tryd.prog.info? 30).map (fun i => (i.zero, i.size, i.bytes)) = some (some (.agg #[.string ⟨#[]⟩, .int .i64 0, .int .u64 0, .float .f64 0, .string ⟨#[]⟩]), 5, 56) := by kernel_rfl

def WoPost (l : List VV) (w : World) (e : Ending) (w' : World) : Prop :=
  ∃ A c, e = .returned (.slice A (nonN l).length c) ∧ LAt w' A (nonN l) ∧ Below w.heap.size w w'

theorem wo_step {B : Nat} {w wr w2 : World} {r : Value} {n : Nat} {xs : List Value} {o : Obj} {e : TypeId} {size : Nat} (hown : wr.ownsRow B e size r n xs) (hB : B ≤ wr.heap.size) (hb : Below B w wr) (hg : (wr.alloc o).grownBy w2 r.ownBlock) : Below B w w2 :=
  (hb.alloc hB o).grown hg (by simp; omega) (fun g hg => (hown.lt g hg).1)

set_option maxHeartbeats 1000000 in
theorem without_any (l : List VV) (A : Option Addr) (c : Nat) (w : World) (hl : LAt w A l) (hm : l.length ≤ 2147483647) :
    Calls Tryd.prog 38 #[.slice A l.length c] w (WoPost l w) := by
  obtain ⟨i0, hi, hz0, hz1, hz2⟩ := info_parts info_value
  obtain ⟨len, hlen⟩ : ∃ len, len = l.length := ⟨_, rfl⟩
  have HL := Lib.hid hl
  have HN := Lib.hid hlen
  unfold WoPost
  rw [← hlen] at hm ⊢
  clear hl hlen
  go_enter Tryd.func38, Tryd.ntmps38
  go_wp2
  go_loopw [3, 7] (fun r i wr => ∃ (k : Nat), k ≤ len ∧ i = .int .i64 k ∧ wr.ownsRow w.heap.size 30 5 r (nonN (l.take k)).length (flat (nonN (l.take k))) ∧ Below w.heap.size w wr) (fun _ i _ => len - (intOf i).toNat)
  case atStart => exact ⟨0, by omega, rfl, World.ownsRow_nil _ _ _ _, Below.refl _ _⟩
  case round =>
    obtain ⟨k, hk, rfl, hown, hb⟩ := hrel
    have HO := Lib.hid hown
    have HB := Lib.hid hb
    have hs := hb.size
    clear hown
    by_cases hlt : k < len
    · have hlt2 : k < l.length := by rw [← HN.out]; exact hlt
      obtain ⟨x, hx'⟩ : ∃ x, l[k]? = some x := ⟨_, List.getElem?_eq_getElem hlt2⟩
      have HX := Lib.hid hx'
      have HS := Lib.hid (nonN_step hx')
      have hcl := cntL_le l k
      rw [← nonN_take] at hcl
      obtain ⟨ad, rfl, hbl, h0, h1, h2, h3, h4⟩ := (HL.out.below hb) k x hx'
      clear hx' hlt2 hb
      cases hx : x.isNull with
      | true =>
        have hS := Lib.hid (show nonN (l.take (k + 1)) = nonN (l.take k) by have h := HS.out; rw [hx] at h; simpa using h)
        have hk' : x.k.toList = [] := by unfold VV.isNull at hx; simpa using hx
        clear hx
        go_wp2
        exact ⟨⟨k + 1, by omega, by push_cast; rfl, by rw [hS.out]; exact HO.out, HB.out⟩, by simp [intOf]; omega⟩
      | false =>
        have hS := Lib.hid (show nonN (l.take (k + 1)) = nonN (l.take k) ++ [x] by have h := HS.out; rw [hx] at h; simpa using h)
        have hk' : x.k.toList.isEmpty = false := hx
        clear hx
        go_wp2_with (
          at_builtin
          refine wpList_append_any _ rfl (.tmp 16) (.tmp 21) _ rfl w.heap.size 30 i0 _ 5 56 Tryd.underlying44 hi hz0 hz1 hz2 rfl (by omega) u3 (nonN (l.take k)).length _ rfl
             (HO.out.alloc _) (wr.heap.size + 1) (some ⟨wr.heap.size, 0, none⟩) 1 1 x.cells rfl (reads_one _ _ _) (fun u hu => by simp [VV.cells] at hu; rcases hu with rfl | rfl | rfl | rfl | rfl <;> rfl) (by simp only [maxLen]; omega) (by omega) (by simp; omega) ?_
          intro v2 w2 hown2 hg2 _
          have HO2 := Lib.hid hown2; have HG2 := Lib.hid hg2; clear hown2 hg2)
        exact ⟨⟨k + 1, by omega, by push_cast; rfl, by rw [hS.out, flat_append, List.length_append]; exact HO2.out, wo_step HO.out hs HB.out HG2.out⟩, by simp [intOf]; omega⟩
    · have hke : k = len := by omega
      subst hke
      have HE := Lib.hid (show l.take k = l by rw [HN.out]; exact List.take_length)
      obtain ⟨A', c', rfl⟩ := own_form HO.out
      go_wp2
      go_ret
      refine ⟨A', c', by rw [HE.out]; rfl, lat_of_own (by have h := HO.out; rw [HE.out] at h; exact h), HB.out⟩

end Go.Proofs.YtiijcmdfbgoafaaDoor
