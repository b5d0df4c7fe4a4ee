/-
  Rows of memory: what a change of the world leaves; copies of elements of several cells; lists of elements laid side by side. Of no program.
-/
import Derived.Laws.CopyRow
import Derived.Laws.CopyOwn
import Derived.Below
import Derived.Deep.RegionLaw
import Derived.WalkKit
import Derived.Deep.QuietTactic
namespace Go.Proofs.YtffgkocokkhahaaGreatDoor
open Go.RowKit

/-- Outside S the world w' is as w was. -/
structure Chg (S : Nat → Prop) (w w' : World) : Prop where
  os : w'.os = w.os
  tape : w'.tape = w.tape
  output : w'.output = w.output
  size : w.heap.size ≤ w'.heap.size
  block : ∀ k, k < w.heap.size → ¬ S k → w'.heap[k]? = w.heap[k]?

theorem Chg.refl (S : Nat → Prop) (w : World) : Chg S w w := ⟨rfl, rfl, rfl, Nat.le_refl _, fun _ _ _ => rfl⟩
theorem Chg.trans {S : Nat → Prop} {a b c : World} (h : Chg S a b) (k : Chg S b c) : Chg S a c :=
  ⟨k.os.trans h.os, k.tape.trans h.tape, k.output.trans h.output, Nat.le_trans h.size k.size, fun i hi hs => (k.block i (Nat.lt_of_lt_of_le hi h.size) hs).trans (h.block i hi hs)⟩
theorem Chg.mono {S T : Nat → Prop} {w w' : World} (h : Chg S w w') (hST : ∀ k, k < w.heap.size → S k → T k) : Chg T w w' :=
  ⟨h.os, h.tape, h.output, h.size, fun k hk hn => h.block k hk (fun hs => hn (hST k hk hs))⟩
/-- A further change, of which only what is new is not among S. -/
theorem Chg.next {S T : Nat → Prop} {a b c : World} (h : Chg S a b) (k : Chg T b c) (hs : ∀ x, x < a.heap.size → T x → S x) : Chg S a c :=
  ⟨k.os.trans h.os, k.tape.trans h.tape, k.output.trans h.output, Nat.le_trans h.size k.size, fun i hi hn => (k.block i (Nat.lt_of_lt_of_le hi h.size) (fun ht => hn (hs i hi ht))).trans (h.block i hi hn)⟩
theorem Chg.of_below {S : Nat → Prop} {w w' : World} (h : Below w.heap.size w w') : Chg S w w' := ⟨h.os, h.tape, h.output, h.size, fun k hk _ => h.block k hk⟩
theorem Chg.below {S : Nat → Prop} {B : Nat} {w w' : World} (h : Chg S w w') (hB : B ≤ w.heap.size) (hS : ∀ k, S k → B ≤ k) : Below B w w' :=
  ⟨h.os, h.tape, h.output, h.size, fun k hk => h.block k (Nat.lt_of_lt_of_le hk hB) (fun hs => absurd (hS k hs) (by omega))⟩
theorem Chg.drew {S : Nat → Prop} {a w : World} (h : Chg S a w) : Chg S a w.drew := ⟨h.os, h.tape, h.output, h.size, h.block⟩
theorem Chg.drewN {S : Nat → Prop} {a w : World} (n : Nat) (h : Chg S a w) : Chg S a (w.drewN n) := ⟨h.os, h.tape, h.output, h.size, h.block⟩
theorem Chg.alloc {S : Nat → Prop} {a w : World} (h : Chg S a w) (o : Obj) : Chg S a (w.alloc o) :=
  h.trans ⟨rfl, rfl, rfl, by simp, fun k hk _ => Below.heap_alloc w o k hk⟩
theorem Chg.setCell {S : Nat → Prop} {a w : World} (h : Chg S a w) {p : Addr} (hp : S p.block ∨ a.heap.size ≤ p.block) (u : Value) : Chg S a (w.setCell p u) :=
  ⟨h.os, h.tape, h.output, Nat.le_trans h.size (by simp [World.setCell]), fun k hk hn => (Below.heap_setCell w p u k (fun e => by subst e; rcases hp with hp | hp; exact hn hp; omega)).trans (h.block k hk hn)⟩
theorem Chg.setRow {S : Nat → Prop} {a w : World} (h : Chg S a w) {g : Nat} (hp : S g ∨ a.heap.size ≤ g) (cs : Array Value) : Chg S a (w.setRow g cs) :=
  ⟨h.os, h.tape, h.output, Nat.le_trans h.size (by simp [World.setRow]), fun k hk hn => (setRow_other w g k cs (fun e => by subst e; rcases hp with hp | hp; exact hn hp; omega)).trans (h.block k hk hn)⟩

/-! ### A block's contents behind a step -/

theorem cell_of_heap {w : World} {b : Nat} {c : Array Value} {t : TypeId} {fr : Nat × Nat} (h : w.heap[b]? = some (.cells c t fr)) (o : Nat) : w.cell? ⟨b, o, none⟩ = c[o]? := by
  simp [World.cell?, h]
theorem free_of_heap {w : World} {b : Nat} {c : Array Value} {t : TypeId} (h : w.heap[b]? = some (.cells c t (0, 0))) (o : Nat) : w.frozen? ⟨b, o, none⟩ = false := by
  simp [World.frozen?, h]
theorem lt_of_heap {w : World} {b : Nat} {x : Obj} (h : w.heap[b]? = some x) : b < w.heap.size := (Array.getElem?_eq_some_iff.1 h).1
theorem heap_new (w : World) (o : Obj) : (w.alloc o).heap[w.heap.size]? = some o := by
  show (w.heap.push o)[w.heap.size]? = _
  simp
theorem heap_old {w : World} {b : Nat} {x : Obj} (h : w.heap[b]? = some x) (o : Obj) : (w.alloc o).heap[b]? = some x := (Below.heap_alloc w o b (lt_of_heap h)).trans h
theorem heap_set {w : World} {b : Nat} {c : Array Value} {t : TypeId} {fr : Nat × Nat} (h : w.heap[b]? = some (.cells c t fr)) (o : Nat) (v : Value) :
    (w.setCell ⟨b, o, none⟩ v).heap[b]? = some (.cells (c.setIfInBounds o v) t fr) := by
  rw [setCell_eq_setRow w b o c t fr v h]
  exact setRow_heap w b c _ t fr h
theorem heap_set_ne {w : World} {b : Nat} {x : Obj} (h : w.heap[b]? = some x) (p : Addr) (v : Value) (hne : b ≠ p.block) : (w.setCell p v).heap[b]? = some x := (Below.heap_setCell w p v b hne).trans h
theorem heap_row {w : World} {b : Nat} {c : Array Value} {t : TypeId} {fr : Nat × Nat} (h : w.heap[b]? = some (.cells c t fr)) (d : Array Value) : (w.setRow b d).heap[b]? = some (.cells d t fr) := setRow_heap w b c d t fr h
theorem heap_row_ne {w : World} {b g : Nat} {x : Obj} (h : w.heap[b]? = some x) (d : Array Value) (hne : b ≠ g) : (w.setRow g d).heap[b]? = some x := (setRow_other w g b d hne).trans h
theorem heap_chg {S : Nat → Prop} {w w' : World} {b : Nat} {x : Obj} (h : w.heap[b]? = some x) (hc : Chg S w w') (hn : ¬ S b) : w'.heap[b]? = some x := (hc.block b (lt_of_heap h) hn).trans h
theorem heap_below {w w' : World} {b : Nat} {x : Obj} (h : w.heap[b]? = some x) (hb : Below w.heap.size w w') : w'.heap[b]? = some x := (hb.block b (lt_of_heap h)).trans h

/-- What a store makes of a block's contents. -/
def updObj (o : Nat) (v : Value) : Obj → Obj
  | .cells c t fr => .cells (c.setIfInBounds o v) t fr
  | x => x
theorem updObj_cells (o : Nat) (v : Value) (c : Array Value) (t : TypeId) (fr : Nat × Nat) : updObj o v (.cells c t fr) = .cells (c.setIfInBounds o v) t fr := rfl
theorem heap_setCell_at (w : World) (b o : Nat) (v : Value) : (w.setCell ⟨b, o, none⟩ v).heap[b]? = (w.heap[b]?).map (updObj o v) := by
  simp only [World.setCell, Array.getElem?_modify, if_true]
  refine congrArg (fun f => Option.map f w.heap[b]?) (funext fun x => ?_)
  cases x <;> rfl
theorem heap_setCell_ne (w : World) (b g o : Nat) (v : Value) (h : ¬ b = g) : (w.setCell ⟨g, o, none⟩ v).heap[b]? = w.heap[b]? := Below.heap_setCell w _ v b h
theorem heap_alloc_ne (w : World) (b : Nat) (x : Obj) (h : b < w.heap.size) : (w.alloc x).heap[b]? = w.heap[b]? := Below.heap_alloc w x b h
theorem heap_drew (w : World) (b : Nat) : w.drew.heap[b]? = w.heap[b]? := rfl
theorem heap_drewN (w : World) (n b : Nat) : (w.drewN n).heap[b]? = w.heap[b]? := rfl

/-! ### copy, of elements of s cells -/

section
variable {P : Program}

theorem run_copy_rows (w : World) (dT sT ty elem : TypeId) (s g o dLen dCap : Nat) (a : Addr) (sLen sCap : Nat) (cur : Array Value) (t : TypeId) (cs : List Value)
    (hu : P.underlying dT = some (.slice elem)) (hs : (P.info? elem).map (·.size) = some s)
    (hg : w.heap[g]? = some (.cells cur t (0, 0))) (hn : cs.length = Nat.min sLen dLen * s)
    (hsrc : ∀ j v, cs[j]? = some v → w.cell? (a.add j) = some v) (hfit : o + cs.length ≤ cur.size) (h1 : ∀ v ∈ cs, v.oneCell' = true) :
    (Builtin.copy_ #[dT, sT] ty #[.slice (some ⟨g, o, none⟩) dLen dCap, .slice (some a) sLen sCap]).run P w =
      .ok (goInt (Nat.min sLen dLen)) (w.setRow g (splice cur.toList o cs).toArray) := by
  have hl := run_loadCells_list (P := P) w a cs hsrc
  have hst := run_storeCells_at P g o t cs 0 cur w hg (by simpa using hfit) h1
  cases hq : P.info? elem with
  | none => simp [hq] at hs
  | some i =>
    have hi : i.size = s := by simpa [hq] using hs
    simp [Builtin.copy_, run_underlying hu, Builtin.lenOf, Builtin.firstCells, sizeOf, typeInfo, hq, hi, ← hn, hl, hst, splice]

theorem run_copy_zero (w : World) (dT sT ty elem : TypeId) (d a : Option Addr) (dLen dCap sLen sCap : Nat) (hu : P.underlying dT = some (.slice elem)) (hs : ((P.info? elem).map (·.size)).isSome = true) (hn : Nat.min sLen dLen = 0) :
    (Builtin.copy_ #[dT, sT] ty #[.slice d dLen dCap, .slice a sLen sCap]).run P w = .ok (goInt 0) w := by
  cases hq : P.info? elem with
  | none => simp [hq] at hs
  | some i => cases d <;> cases a <;> simp [Builtin.copy_, run_underlying hu, Builtin.lenOf, Builtin.firstCells, sizeOf, typeInfo, hq, hn, storeCells, loadCells, loadCellsFrom]

/-- copy as one step of a region that draws its order. -/
theorem step_copy_rows {ops : Array Oper} {o : Oper} {a : Act} {w : World} {K : Act → World → Prop} {Q : Exit → Act → World → Prop} {E : Prop} (hgd : o.guard = none) (d s : Operand) (dT sT : TypeId)
    (ho : o.op = .call { callee := .builtin .copy, args := #[d, s], argTypes := #[dT, sT] }) (elem : TypeId) (sz : Nat) (hu : P.underlying dT = some (.slice elem)) (hsz : (P.info? elem).map (·.size) = some sz)
    (dp sp : Option Addr) (dLen dCap sLen sCap : Nat) (hd : a.eval d = .slice dp dLen dCap) (hs : a.eval s = .slice sp sLen sCap)
    (g off : Nat) (cur : Array Value) (t : TypeId) (hg : w.heap[g]? = some (.cells cur t (0, 0))) (cs : List Value) (hn : cs.length = Nat.min sLen dLen * sz) (hpz : 0 < sz)
    (hpos : 0 < cs.length → dp = some ⟨g, off, none⟩ ∧ ∃ ad, sp = some ad ∧ ∀ j v, cs[j]? = some v → w.cell? (ad.add j) = some v)
    (hfit : off + cs.length ≤ cur.size) (h1 : ∀ v ∈ cs, v.oneCell' = true)
    (h : ∀ w', Hid (w'.heap[g]? = some (.cells (splice cur.toList off cs).toArray t (0, 0))) → Hid (Chg (fun b => b = g) w w') → K (a.put o.dst (goInt (Nat.min sLen dLen))) w') :
    if Region.wanted o (yielded ops a.tmps) = true then Oper.wp P o a w K Q else E := by
  have hw : Region.wanted o (yielded ops a.tmps) = true := by simp [Region.wanted, hgd]
  rw [if_pos hw]
  replace h := h (w.setRow g (splice cur.toList off cs).toArray) (heap_row hg _) (Chg.setRow (S := fun b => b = g) (Chg.refl _ _) (.inl rfl) _)
  by_cases h0 : cs.length = 0
  · obtain rfl : cs = [] := List.eq_nil_of_length_eq_zero h0
    have hz : Nat.min sLen dLen = 0 := by
      rcases Nat.eq_zero_or_pos (Nat.min sLen dLen) with h' | h'
      · exact h'
      · have := Nat.mul_pos h' hpz
        rw [← hn] at this
        simp at this
    have hrun := run_copy_zero (P := P) w dT sT o.type elem dp sp dLen dCap sLen sCap hu (by rw [hsz]; rfl) hz
    rw [hz] at h
    rw [show splice cur.toList off [] = cur.toList by simp [splice], show cur.toList.toArray = cur by simp, setRow_self w g cur t (0, 0) hg] at h
    unfold Oper.wp
    simp [execOp, ho, resolve, invoke, builtin, hd, hs, hrun, Result.andThen]
    exact h
  · obtain ⟨rfl, ad, rfl, hsrc⟩ := hpos (by omega)
    have hrun := run_copy_rows (P := P) w dT sT o.type elem sz g off dLen dCap ad sLen sCap cur t cs hu hsz hg hn hsrc hfit h1
    unfold Oper.wp
    simp [execOp, ho, resolve, invoke, builtin, hd, hs, hrun, Result.andThen]
    exact h

/-- copy as an operation of a region that keeps its order. -/
theorem wpList_copy_rows {ops : Array Oper} {rest : List Oper} {o : Oper} {a : Act} {w : World} {Q : Exit → Act → World → Prop} (hgd : o.guard = none) (d s : Operand) (dT sT : TypeId)
    (ho : o.op = .call { callee := .builtin .copy, args := #[d, s], argTypes := #[dT, sT] }) (elem : TypeId) (sz : Nat) (hu : P.underlying dT = some (.slice elem)) (hsz : (P.info? elem).map (·.size) = some sz)
    (dp sp : Option Addr) (dLen dCap sLen sCap : Nat) (hd : a.eval d = .slice dp dLen dCap) (hs : a.eval s = .slice sp sLen sCap)
    (g off : Nat) (cur : Array Value) (t : TypeId) (hg : w.heap[g]? = some (.cells cur t (0, 0))) (cs : List Value) (hn : cs.length = Nat.min sLen dLen * sz) (hpz : 0 < sz)
    (hpos : 0 < cs.length → dp = some ⟨g, off, none⟩ ∧ ∃ ad, sp = some ad ∧ ∀ j v, cs[j]? = some v → w.cell? (ad.add j) = some v)
    (hfit : off + cs.length ≤ cur.size) (h1 : ∀ v ∈ cs, v.oneCell' = true)
    (h : ∀ w', Hid (w'.heap[g]? = some (.cells (splice cur.toList off cs).toArray t (0, 0))) → Hid (Chg (fun b => b = g) w w') → wpList P ops Q rest (a.put o.dst (goInt (Nat.min sLen dLen))) w') : wpList P ops Q (o :: rest) a w := by
  replace h := h (w.setRow g (splice cur.toList off cs).toArray) (heap_row hg _) (Chg.setRow (S := fun b => b = g) (Chg.refl _ _) (.inl rfl) _)
  refine wpList_plain hgd fun K hK => ?_
  have h' := hK _ _ h
  by_cases h0 : cs.length = 0
  · obtain rfl : cs = [] := List.eq_nil_of_length_eq_zero h0
    have hz : Nat.min sLen dLen = 0 := by
      rcases Nat.eq_zero_or_pos (Nat.min sLen dLen) with h' | h'
      · exact h'
      · have := Nat.mul_pos h' hpz
        rw [← hn] at this
        simp at this
    have hrun := run_copy_zero (P := P) w dT sT o.type elem dp sp dLen dCap sLen sCap hu (by rw [hsz]; rfl) hz
    rw [hz] at h'
    rw [show splice cur.toList off [] = cur.toList by simp [splice], show cur.toList.toArray = cur by simp, setRow_self w g cur t (0, 0) hg] at h'
    unfold Oper.wp
    simp [execOp, ho, resolve, invoke, builtin, hd, hs, hrun, Result.andThen]
    exact h'
  · obtain ⟨rfl, ad, rfl, hsrc⟩ := hpos (by omega)
    have hrun := run_copy_rows (P := P) w dT sT o.type elem sz g off dLen dCap ad sLen sCap cur t cs hu hsz hg hn hsrc hfit h1
    unfold Oper.wp
    simp [execOp, ho, resolve, invoke, builtin, hd, hs, hrun, Result.andThen]
    exact h'
end

/-! ### Parts of an array behind a pointer -/

section
variable {P : Program} {t E n s : Nat} (ht : P.underlying t = some (.array n E)) (hs : (P.info? E).map (·.size) = some s)

theorem add_mk (b o k : Nat) : Addr.add ⟨b, o, none⟩ k = ⟨b, o + k, none⟩ := by
  unfold Addr.add
  split
  · rename_i h
    subst h
    rfl
  · rfl

include ht hs in
theorem run_cut_l (b o l : Nat) (hl : l < n) (w : World) :
    (Instr.sliceAt t (.pointer (some ⟨b, o, none⟩)) (some (.int .i64 (l : Int))) none none).run P w = .ok (.slice (some ⟨b, o + l * s, none⟩) (n - l) (n - l)) w := by
  cases hq : P.info? E with
  | none => simp [hq] at hs
  | some i =>
    have hi : i.size = s := by simpa [hq] using hs
    simp [Instr.sliceAt, Instr.sureAddr, run_underlying ht, Instr.sliceBounds, run_sliceBound, sizeOf, typeInfo, hq, hi, add_mk, (by omega : 0 ≤ (l : Int)), (by omega : (l : Int) ≤ n)]
    omega

include ht hs in
theorem run_cut_h (b o h : Nat) (hh : h ≤ n) (w : World) :
    (Instr.sliceAt t (.pointer (some ⟨b, o, none⟩)) none (some (.int .i64 (h : Int))) none).run P w = .ok (.slice (some ⟨b, o, none⟩) h n) w := by
  cases hq : P.info? E with
  | none => simp [hq] at hs
  | some i =>
    simp [Instr.sliceAt, Instr.sureAddr, run_underlying ht, Instr.sliceBounds, run_sliceBound, sizeOf, typeInfo, hq, Addr.add, (by omega : 0 ≤ (h : Int)), (by omega : (h : Int) ≤ n)]

include ht hs in
theorem run_cut_lh (b o l h : Nat) (hl : l ≤ h) (hh : h ≤ n) (hn : l < n) (w : World) :
    (Instr.sliceAt t (.pointer (some ⟨b, o, none⟩)) (some (.int .i64 (l : Int))) (some (.int .i64 (h : Int))) none).run P w = .ok (.slice (some ⟨b, o + l * s, none⟩) (h - l) (n - l)) w := by
  cases hq : P.info? E with
  | none => simp [hq] at hs
  | some i =>
    have hi : i.size = s := by simpa [hq] using hs
    simp [Instr.sliceAt, Instr.sureAddr, run_underlying ht, Instr.sliceBounds, run_sliceBound, sizeOf, typeInfo, hq, hi, add_mk, (by omega : 0 ≤ (l : Int)), (by omega : (l : Int) ≤ h), (by omega : 0 ≤ (h : Int)), (by omega : (h : Int) ≤ n)]
    omega

include ht hs in
theorem run_cut_all (b o : Nat) (w : World) :
    (Instr.sliceAt t (.pointer (some ⟨b, o, none⟩)) none none none).run P w = .ok (.slice (some ⟨b, o, none⟩) n n) w := by
  cases hq : P.info? E with
  | none => simp [hq] at hs
  | some i =>
    simp [Instr.sliceAt, Instr.sureAddr, run_underlying ht, Instr.sliceBounds, sizeOf, typeInfo, hq, Addr.add]
end

/-! ### Elements of s cells, side by side -/

section
variable {E : Type} (f : E → List Value) (s : Nat) (hf : ∀ e, (f e).length = s)

def flat (es : List E) : List Value := es.flatMap f

include hf in
theorem flat_length (es : List E) : (flat f es).length = es.length * s := by
  unfold flat
  induction es with
  | nil => simp
  | cons e es ih => simp [hf e, ih, Nat.succ_mul]; omega

theorem flat_append (l m : List E) : flat f (l ++ m) = flat f l ++ flat f m := by simp [flat]
theorem flat_cons (e : E) (m : List E) : flat f (e :: m) = f e ++ flat f m := by simp [flat]
theorem flat_nil : flat f ([] : List E) = [] := rfl

include hf in
theorem flat_at : ∀ (es : List E) (i : Nat) (e : E) (r : Nat) (v : Value), es[i]? = some e → r < s → (f e)[r]? = some v → (flat f es)[i * s + r]? = some v
  | [], _, _, _, _, h, _, _ => by simp at h
  | x :: es, 0, e, r, v, h, hr, hv => by
    obtain rfl : x = e := by simpa using h
    rw [flat_cons, Nat.zero_mul, Nat.zero_add, List.getElem?_append_left (by rw [hf]; exact hr)]
    exact hv
  | x :: es, i + 1, e, r, v, h, hr, hv => by
    rw [flat_cons, List.getElem?_append_right (by rw [hf, Nat.succ_mul]; omega), hf, show (i + 1) * s + r - s = i * s + r by rw [Nat.succ_mul]; omega]
    exact flat_at es i e r v (by simpa using h) hr hv

include hf in
theorem flat_take (es : List E) (i : Nat) : (flat f es).take (i * s) = flat f (es.take i) := by
  induction es generalizing i with
  | nil => simp [flat]
  | cons e es ih =>
    cases i with
    | zero => simp [flat]
    | succ i =>
      rw [List.take_succ_cons, flat_cons, flat_cons, List.take_append, hf, List.take_of_length_le (by rw [hf, Nat.succ_mul]; omega), show (i + 1) * s - s = i * s by rw [Nat.succ_mul]; omega, ih]

include hf in
theorem flat_drop (es : List E) (i : Nat) : (flat f es).drop (i * s) = flat f (es.drop i) := by
  induction es generalizing i with
  | nil => simp [flat]
  | cons e es ih =>
    cases i with
    | zero => simp [flat]
    | succ i =>
      rw [List.drop_succ_cons, flat_cons, List.drop_append, hf, List.drop_of_length_le (by rw [hf, Nat.succ_mul]; omega), show (i + 1) * s - s = i * s by rw [Nat.succ_mul]; omega, ih, List.nil_append]
end

end Go.Proofs.YtffgkocokkhahaaGreatDoor
