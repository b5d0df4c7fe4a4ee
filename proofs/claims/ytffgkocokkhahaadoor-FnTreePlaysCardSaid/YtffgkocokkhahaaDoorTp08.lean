/-
  impl.out at every value; laws.same; ql.ideal, impl.Ideal, laws.ideals. PRINTED BY wip/tpl/gen_out2.py. || Rows of memory: what a change of the world leaves; copies of elements of several cells; lists of elements laid side by side. Of no program. || impl.outs: values of ql as plain data, each by itself. || laws.allConcrete of a list of values. || ql.collateRank and collateDiffType of any value. PRINTED BY wip/tpl/gen_col.py.
-/
import Derived.Test.YtffgkocokkhahaaDoorTp07
import Derived.Deep.RegionWith
import Derived.Laws.CopyRow
import Derived.Laws.CopyOwn
import Derived.Below
import Derived.Deep.RegionLaw
import Derived.WalkKit
import Derived.Deep.QuietTactic
import Derived.Test.YtffgkocokkhahaaDoorTp02
import Derived.Test.YtffgkocokkhahaaDoorTp01
import Derived.Test.YtffgkocokkhahaaDoorTp06

/- impl.out at every value; laws.same; ql.ideal, impl.Ideal, laws.ideals. PRINTED BY wip/tpl/gen_out2.py. -/
namespace Go.Proofs.YtffgkocokkhahaaDoor
open Go.RowKit


/-- What is in a value fits. -/
def SV.wf : SV → Prop
  | .int k n => k.min ≤ n ∧ n ≤ k.max
  | .iInt n => IntKind.i64.min ≤ n ∧ n ≤ IntKind.i64.max
  | .iRune n => IntKind.i32.min ≤ n ∧ n ≤ IntKind.i32.max
  | .iUint n => IntKind.u64.min ≤ n ∧ n ≤ IntKind.u64.max
  | .f32 x => x < 4294967296
  | .f64 x | .iFloat x => x < 18446744073709551616
  | _ => True

theorem wrap64_of {n : Int} (h1 : -9223372036854775808 ≤ n) (h2 : n ≤ 9223372036854775807) : wrap64 n = n := by unfold wrap64; omega

theorem out_any (x : SV) (hx : x.wf) (v : Value) (w : World) (h : Rep w x v) : Calls Tryd.prog 74 #[v] w (OutPost x w) := by
  cases x with
  | null => exact out_null v w h
  | bool b => exact out_bool b v w h
  | f32 x =>
    cases hn : (Ieee.single.read x).isNaN with
    | true => exact out_f32_nan x hn v w h
    | false => exact out_f32 x hn v w h
  | f64 x => exact out_f64 x v w h
  | str s => exact out_str s v w h
  | blob l => exact out_blob l v w h
  | iInt n => exact out_iInt n v w h
  | iUint n => exact out_iUint n v w h
  | iFloat x => exact out_iFloat x v w h
  | iRune n =>
    obtain ⟨h1, h2⟩ := hx
    simp only [IntKind.min, IntKind.max, IntKind.signed, IntKind.bits, if_true, Nat.reduceSub, Int.reducePow, Int.reduceSub] at h1 h2
    exact out_iRune n v w (wrap64_of (by omega) (by omega)) h
  | int q n =>
    obtain ⟨h1, h2⟩ := hx
    cases q <;> simp only [IntKind.min, IntKind.max, IntKind.signed, IntKind.bits, if_true, if_false, Bool.false_eq_true, Nat.reduceSub, Int.reducePow, Int.reduceSub] at h1 h2
    case i8 => exact out_i8 n v w (wrap64_of (by omega) (by omega)) h
    case i16 => exact out_i16 n v w (wrap64_of (by omega) (by omega)) h
    case i32 => exact out_i32 n v w (wrap64_of (by omega) (by omega)) h
    case i64 => exact out_i64 n v w h
    case u8 => exact out_u8 n v w (wrap_i (by simp [IntKind.min, IntKind.signed]; omega) (by simp [IntKind.max, IntKind.signed, IntKind.bits]; omega)) h
    case u16 => exact out_u16 n v w (wrap_i (by simp [IntKind.min, IntKind.signed]; omega) (by simp [IntKind.max, IntKind.signed, IntKind.bits]; omega)) h
    case u32 => exact out_u32 n v w (wrap_i (by simp [IntKind.min, IntKind.signed]; omega) (by simp [IntKind.max, IntKind.signed, IntKind.bits]; omega)) h
    case u64 => exact out_u64 n v w h

/-- What 'same' tells. -/
def sameB (k : ByteArray) (n u : Int) (f : Nat) (s : ByteArray) (k' : ByteArray) (n' u' : Int) (f' : Nat) (s' : ByteArray) : Bool :=
  k.toList == k'.toList && n == n' && u == u' && (bitsV f : Int) == bitsV f' && s.toList == s'.toList

set_option maxRecDepth 100000 in
set_option maxHeartbeats 1000000 in
theorem same_any (k : ByteArray) (n u : Int) (f : Nat) (s : ByteArray) (k' : ByteArray) (n' u' : Int) (f' : Nat) (s' : ByteArray) (w : World) :
    Calls Tryd.prog 32 #[.agg #[.string k, .int .i64 n, .int .u64 u, .float .f64 f, .string s], .agg #[.string k', .int .i64 n', .int .u64 u', .float .f64 f', .string s']] w fun e w' => e = .returned (.bool (sameB k n u f s k' n' u' f' s')) ∧ Below w.heap.size w w' := by
  cases h1 : (k.toList == k'.toList) with
  | false =>
    have hv : sameB k n u f s k' n' u' f' s' = false := by unfold sameB; rw [h1]; rfl
    rw [hv]
    clear hv
    go_enter Tryd.func32, Tryd.ntmps32
    go_wp2
    go_quiet ((go_at_call 67; exact quiet_of_left (bits_any _ _)))
    go_wp2
    go_ret
    exact ⟨rfl, below_drewN (((Below.refl _ _).alloc (Nat.le_refl _) _).alloc (by simp) _) _⟩
  | true =>
    cases h2 : (n == n') with
    | false =>
      have hv : sameB k n u f s k' n' u' f' s' = false := by unfold sameB; rw [h1]; rw [h2]; simp
      rw [hv]
      clear hv
      go_enter Tryd.func32, Tryd.ntmps32
      go_wp2
      go_quiet ((go_at_call 67; exact quiet_of_left (bits_any _ _)))
      go_wp2
      go_ret
      exact ⟨rfl, below_drewN (((Below.refl _ _).alloc (Nat.le_refl _) _).alloc (by simp) _) _⟩
    | true =>
      cases h3 : (u == u') with
      | false =>
        have hv : sameB k n u f s k' n' u' f' s' = false := by unfold sameB; rw [h1]; rw [h2]; rw [h3]; simp
        rw [hv]
        clear hv
        go_enter Tryd.func32, Tryd.ntmps32
        go_wp2
        go_quiet ((go_at_call 67; exact quiet_of_left (bits_any _ _)))
        go_wp2
        go_ret
        exact ⟨rfl, below_drewN (((Below.refl _ _).alloc (Nat.le_refl _) _).alloc (by simp) _) _⟩
      | true =>
        cases h4 : ((bitsV f : Int) == bitsV f') with
        | false =>
          have hv : sameB k n u f s k' n' u' f' s' = false := by unfold sameB; rw [h1]; rw [h2]; rw [h3]; rw [h4]; simp
          rw [hv]
          clear hv
          go_enter Tryd.func32, Tryd.ntmps32
          go_wp2
          go_quiet ((go_at_call 67; exact quiet_of_left (bits_any _ _)))
          go_wp2
          go_ret
          exact ⟨rfl, below_drewN (((Below.refl _ _).alloc (Nat.le_refl _) _).alloc (by simp) _) _⟩
        | true =>
          have hv : sameB k n u f s k' n' u' f' s' = (s.toList == s'.toList) := by unfold sameB; rw [h1]; rw [h2]; rw [h3]; rw [h4]; simp
          rw [hv]
          clear hv
          go_enter Tryd.func32, Tryd.ntmps32
          go_wp2
          go_quiet ((go_at_call 67; exact quiet_of_left (bits_any _ _)))
          go_wp2
          go_ret
          exact ⟨rfl, below_drewN (((Below.refl _ _).alloc (Nat.le_refl _) _).alloc (by simp) _) _⟩

theorem toSV_wf {kd : Kd} {n u : Int} {f : Nat} {s : ByteArray} {y : SV} (hr : Rng n u f) (hv : validB kd n u f s = true) (h : SVof kd n u f s y) : y.wf := by
  obtain ⟨r1, r2, r3, r4, r5⟩ := hr
  unfold SVof at h
  split at h
  · obtain ⟨x, rfl, _, hx⟩ := h
    exact hx
  · rename_i hne
    subst h
    cases kd with
    | int q =>
      cases q <;> simp only [validB, Bool.and_eq_true, beq_iff_eq] at hv <;> simp [toSV, SV.wf, IntKind.min, IntKind.max, IntKind.signed, IntKind.bits] <;> omega
    | iInt => simp [toSV, SV.wf, IntKind.min, IntKind.max, IntKind.signed, IntKind.bits]; omega
    | iRune => simp only [validB, Bool.and_eq_true, beq_iff_eq] at hv; simp [toSV, SV.wf, IntKind.min, IntKind.max, IntKind.signed, IntKind.bits]; omega
    | iUint => simp [toSV, SV.wf, IntKind.min, IntKind.max, IntKind.signed, IntKind.bits]; omega
    | f32 =>
      simp only [toSV, SV.wf]
      unfold Flt.down
      exact Nat.lt_of_lt_of_le (Ieee.Format.write_lt _ _) (by decide)
    | f64 => exact r5
    | iFloat => exact r5
    | _ => trivial

def idealIntS : ByteArray := ⟨#[105, 100, 101, 97, 108, 73, 110, 116]⟩

end Go.Proofs.YtffgkocokkhahaaDoor

/- Rows of memory: what a change of the world leaves; copies of elements of several cells; lists of elements laid side by side. Of no program. -/
namespace Go.Proofs.YtffgkocokkhahaaDoor
open Go.RowKit

/-- Outside S the world w' is as w was. -/
structure Chg (S : Nat → Prop) (w w' : World) : Prop where
  os : w'.os = w.os
  tape : w'.tape = w.tape
  output : w'.output = w.output
  size : w.heap.size ≤ w'.heap.size
  block : ∀ k, k < w.heap.size → ¬ S k → w'.heap[k]? = w.heap[k]?

theorem Chg.refl (S : Nat → Prop) (w : World) : Chg S w w := ⟨rfl, rfl, rfl, Nat.le_refl _, fun _ _ _ => rfl⟩
theorem Chg.trans {S : Nat → Prop} {a b c : World} (h : Chg S a b) (k : Chg S b c) : Chg S a c :=
  ⟨k.os.trans h.os, k.tape.trans h.tape, k.output.trans h.output, Nat.le_trans h.size k.size, fun i hi hs => (k.block i (Nat.lt_of_lt_of_le hi h.size) hs).trans (h.block i hi hs)⟩
theorem Chg.mono {S T : Nat → Prop} {w w' : World} (h : Chg S w w') (hST : ∀ k, k < w.heap.size → S k → T k) : Chg T w w' :=
  ⟨h.os, h.tape, h.output, h.size, fun k hk hn => h.block k hk (fun hs => hn (hST k hk hs))⟩
/-- A further change, of which only what is new is not among S. -/
theorem Chg.next {S T : Nat → Prop} {a b c : World} (h : Chg S a b) (k : Chg T b c) (hs : ∀ x, x < a.heap.size → T x → S x) : Chg S a c :=
  ⟨k.os.trans h.os, k.tape.trans h.tape, k.output.trans h.output, Nat.le_trans h.size k.size, fun i hi hn => (k.block i (Nat.lt_of_lt_of_le hi h.size) (fun ht => hn (hs i hi ht))).trans (h.block i hi hn)⟩
theorem Chg.of_below {S : Nat → Prop} {w w' : World} (h : Below w.heap.size w w') : Chg S w w' := ⟨h.os, h.tape, h.output, h.size, fun k hk _ => h.block k hk⟩
theorem Chg.below {S : Nat → Prop} {B : Nat} {w w' : World} (h : Chg S w w') (hB : B ≤ w.heap.size) (hS : ∀ k, S k → B ≤ k) : Below B w w' :=
  ⟨h.os, h.tape, h.output, h.size, fun k hk => h.block k (Nat.lt_of_lt_of_le hk hB) (fun hs => absurd (hS k hs) (by omega))⟩
theorem Chg.drew {S : Nat → Prop} {a w : World} (h : Chg S a w) : Chg S a w.drew := ⟨h.os, h.tape, h.output, h.size, h.block⟩
theorem Chg.drewN {S : Nat → Prop} {a w : World} (n : Nat) (h : Chg S a w) : Chg S a (w.drewN n) := ⟨h.os, h.tape, h.output, h.size, h.block⟩
theorem Chg.alloc {S : Nat → Prop} {a w : World} (h : Chg S a w) (o : Obj) : Chg S a (w.alloc o) :=
  h.trans ⟨rfl, rfl, rfl, by simp, fun k hk _ => Below.heap_alloc w o k hk⟩
theorem Chg.setCell {S : Nat → Prop} {a w : World} (h : Chg S a w) {p : Addr} (hp : S p.block ∨ a.heap.size ≤ p.block) (u : Value) : Chg S a (w.setCell p u) :=
  ⟨h.os, h.tape, h.output, Nat.le_trans h.size (by simp [World.setCell]), fun k hk hn => (Below.heap_setCell w p u k (fun e => by subst e; rcases hp with hp | hp; exact hn hp; omega)).trans (h.block k hk hn)⟩
theorem Chg.setRow {S : Nat → Prop} {a w : World} (h : Chg S a w) {g : Nat} (hp : S g ∨ a.heap.size ≤ g) (cs : Array Value) : Chg S a (w.setRow g cs) :=
  ⟨h.os, h.tape, h.output, Nat.le_trans h.size (by simp [World.setRow]), fun k hk hn => (setRow_other w g k cs (fun e => by subst e; rcases hp with hp | hp; exact hn hp; omega)).trans (h.block k hk hn)⟩

/-! ### A block's contents behind a step -/

theorem cell_of_heap {w : World} {b : Nat} {c : Array Value} {t : TypeId} {fr : Nat × Nat} (h : w.heap[b]? = some (.cells c t fr)) (o : Nat) : w.cell? ⟨b, o, none⟩ = c[o]? := by
  simp [World.cell?, h]
theorem free_of_heap {w : World} {b : Nat} {c : Array Value} {t : TypeId} (h : w.heap[b]? = some (.cells c t (0, 0))) (o : Nat) : w.frozen? ⟨b, o, none⟩ = false := by
  simp [World.frozen?, h]
theorem lt_of_heap {w : World} {b : Nat} {x : Obj} (h : w.heap[b]? = some x) : b < w.heap.size := (Array.getElem?_eq_some_iff.1 h).1
theorem heap_new (w : World) (o : Obj) : (w.alloc o).heap[w.heap.size]? = some o := by
  show (w.heap.push o)[w.heap.size]? = _
  simp
theorem heap_old {w : World} {b : Nat} {x : Obj} (h : w.heap[b]? = some x) (o : Obj) : (w.alloc o).heap[b]? = some x := (Below.heap_alloc w o b (lt_of_heap h)).trans h
theorem heap_set {w : World} {b : Nat} {c : Array Value} {t : TypeId} {fr : Nat × Nat} (h : w.heap[b]? = some (.cells c t fr)) (o : Nat) (v : Value) :
    (w.setCell ⟨b, o, none⟩ v).heap[b]? = some (.cells (c.setIfInBounds o v) t fr) := by
  rw [setCell_eq_setRow w b o c t fr v h]
  exact setRow_heap w b c _ t fr h
theorem heap_row {w : World} {b : Nat} {c : Array Value} {t : TypeId} {fr : Nat × Nat} (h : w.heap[b]? = some (.cells c t fr)) (d : Array Value) : (w.setRow b d).heap[b]? = some (.cells d t fr) := setRow_heap w b c d t fr h
theorem heap_chg {S : Nat → Prop} {w w' : World} {b : Nat} {x : Obj} (h : w.heap[b]? = some x) (hc : Chg S w w') (hn : ¬ S b) : w'.heap[b]? = some x := (hc.block b (lt_of_heap h) hn).trans h
theorem heap_below {w w' : World} {b : Nat} {x : Obj} (h : w.heap[b]? = some x) (hb : Below w.heap.size w w') : w'.heap[b]? = some x := (hb.block b (lt_of_heap h)).trans h

/-- What a store makes of a block's contents. -/
def updObj (o : Nat) (v : Value) : Obj → Obj
  | .cells c t fr => .cells (c.setIfInBounds o v) t fr
  | x => x
theorem updObj_cells (o : Nat) (v : Value) (c : Array Value) (t : TypeId) (fr : Nat × Nat) : updObj o v (.cells c t fr) = .cells (c.setIfInBounds o v) t fr := rfl
theorem heap_setCell_at (w : World) (b o : Nat) (v : Value) : (w.setCell ⟨b, o, none⟩ v).heap[b]? = (w.heap[b]?).map (updObj o v) := by
  simp only [World.setCell, Array.getElem?_modify, if_true]
  refine congrArg (fun f => Option.map f w.heap[b]?) (funext fun x => ?_)
  cases x <;> rfl
theorem heap_setCell_ne (w : World) (b g o : Nat) (v : Value) (h : ¬ b = g) : (w.setCell ⟨g, o, none⟩ v).heap[b]? = w.heap[b]? := Below.heap_setCell w _ v b h
theorem heap_alloc_ne (w : World) (b : Nat) (x : Obj) (h : b < w.heap.size) : (w.alloc x).heap[b]? = w.heap[b]? := Below.heap_alloc w x b h
theorem heap_drew (w : World) (b : Nat) : w.drew.heap[b]? = w.heap[b]? := rfl
/-! ### copy, of elements of s cells -/

section
variable {P : Program}

theorem run_copy_rows (w : World) (dT sT ty elem : TypeId) (s g o dLen dCap : Nat) (a : Addr) (sLen sCap : Nat) (cur : Array Value) (t : TypeId) (cs : List Value)
    (hu : P.underlying dT = some (.slice elem)) (hs : (P.info? elem).map (·.size) = some s)
    (hg : w.heap[g]? = some (.cells cur t (0, 0))) (hn : cs.length = Nat.min sLen dLen * s)
    (hsrc : ∀ j v, cs[j]? = some v → w.cell? (a.add j) = some v) (hfit : o + cs.length ≤ cur.size) (h1 : ∀ v ∈ cs, v.oneCell' = true) :
    (Builtin.copy_ #[dT, sT] ty #[.slice (some ⟨g, o, none⟩) dLen dCap, .slice (some a) sLen sCap]).run P w =
      .ok (goInt (Nat.min sLen dLen)) (w.setRow g (splice cur.toList o cs).toArray) := by
  have hl := run_loadCells_list (P := P) w a cs hsrc
  have hst := run_storeCells_at P g o t cs 0 cur w hg (by simpa using hfit) h1
  cases hq : P.info? elem with
  | none => simp [hq] at hs
  | some i =>
    have hi : i.size = s := by simpa [hq] using hs
    simp [Builtin.copy_, run_underlying hu, Builtin.lenOf, Builtin.firstCells, sizeOf, typeInfo, hq, hi, ← hn, hl, hst, splice]

theorem run_copy_zero (w : World) (dT sT ty elem : TypeId) (d a : Option Addr) (dLen dCap sLen sCap : Nat) (hu : P.underlying dT = some (.slice elem)) (hs : ((P.info? elem).map (·.size)).isSome = true) (hn : Nat.min sLen dLen = 0) :
    (Builtin.copy_ #[dT, sT] ty #[.slice d dLen dCap, .slice a sLen sCap]).run P w = .ok (goInt 0) w := by
  cases hq : P.info? elem with
  | none => simp [hq] at hs
  | some i => cases d <;> cases a <;> simp [Builtin.copy_, run_underlying hu, Builtin.lenOf, Builtin.firstCells, sizeOf, typeInfo, hq, hn, storeCells, loadCells, loadCellsFrom]

/-- copy as an operation of a region that keeps its order. -/
theorem wpList_copy_rows {ops : Array Oper} {rest : List Oper} {o : Oper} {a : Act} {w : World} {Q : Exit → Act → World → Prop} (hgd : o.guard = none) (d s : Operand) (dT sT : TypeId)
    (ho : o.op = .call { callee := .builtin .copy, args := #[d, s], argTypes := #[dT, sT] }) (elem : TypeId) (sz : Nat) (hu : P.underlying dT = some (.slice elem)) (hsz : (P.info? elem).map (·.size) = some sz)
    (dp sp : Option Addr) (dLen dCap sLen sCap : Nat) (hd : a.eval d = .slice dp dLen dCap) (hs : a.eval s = .slice sp sLen sCap)
    (g off : Nat) (cur : Array Value) (t : TypeId) (hg : w.heap[g]? = some (.cells cur t (0, 0))) (cs : List Value) (hn : cs.length = Nat.min sLen dLen * sz) (hpz : 0 < sz)
    (hpos : 0 < cs.length → dp = some ⟨g, off, none⟩ ∧ ∃ ad, sp = some ad ∧ ∀ j v, cs[j]? = some v → w.cell? (ad.add j) = some v)
    (hfit : off + cs.length ≤ cur.size) (h1 : ∀ v ∈ cs, v.oneCell' = true)
    (h : ∀ w', Hid (w'.heap[g]? = some (.cells (splice cur.toList off cs).toArray t (0, 0))) → Hid (Chg (fun b => b = g) w w') → wpList P ops Q rest (a.put o.dst (goInt (Nat.min sLen dLen))) w') : wpList P ops Q (o :: rest) a w := by
  replace h := h (w.setRow g (splice cur.toList off cs).toArray) (heap_row hg _) (Chg.setRow (S := fun b => b = g) (Chg.refl _ _) (.inl rfl) _)
  refine wpList_plain hgd fun K hK => ?_
  have h' := hK _ _ h
  by_cases h0 : cs.length = 0
  · obtain rfl : cs = [] := List.eq_nil_of_length_eq_zero h0
    have hz : Nat.min sLen dLen = 0 := by
      rcases Nat.eq_zero_or_pos (Nat.min sLen dLen) with h' | h'
      · exact h'
      · have := Nat.mul_pos h' hpz
        rw [← hn] at this
        simp at this
    have hrun := run_copy_zero (P := P) w dT sT o.type elem dp sp dLen dCap sLen sCap hu (by rw [hsz]; rfl) hz
    rw [hz] at h'
    rw [show splice cur.toList off [] = cur.toList by simp [splice], show cur.toList.toArray = cur by simp, setRow_self w g cur t (0, 0) hg] at h'
    unfold Oper.wp
    simp [execOp, ho, resolve, invoke, builtin, hd, hs, hrun, Result.andThen]
    exact h'
  · obtain ⟨rfl, ad, rfl, hsrc⟩ := hpos (by omega)
    have hrun := run_copy_rows (P := P) w dT sT o.type elem sz g off dLen dCap ad sLen sCap cur t cs hu hsz hg hn hsrc hfit h1
    unfold Oper.wp
    simp [execOp, ho, resolve, invoke, builtin, hd, hs, hrun, Result.andThen]
    exact h'
end

/-! ### Parts of an array behind a pointer -/

section
variable {P : Program} {t E n s : Nat} (ht : P.underlying t = some (.array n E)) (hs : (P.info? E).map (·.size) = some s)

theorem add_mk (b o k : Nat) : Addr.add ⟨b, o, none⟩ k = ⟨b, o + k, none⟩ := by
  unfold Addr.add
  split
  · rename_i h
    subst h
    rfl
  · rfl

include ht hs in
theorem run_cut_l (b o l : Nat) (hl : l < n) (w : World) :
    (Instr.sliceAt t (.pointer (some ⟨b, o, none⟩)) (some (.int .i64 (l : Int))) none none).run P w = .ok (.slice (some ⟨b, o + l * s, none⟩) (n - l) (n - l)) w := by
  cases hq : P.info? E with
  | none => simp [hq] at hs
  | some i =>
    have hi : i.size = s := by simpa [hq] using hs
    simp [Instr.sliceAt, Instr.sureAddr, run_underlying ht, Instr.sliceBounds, run_sliceBound, sizeOf, typeInfo, hq, hi, add_mk, (by omega : 0 ≤ (l : Int)), (by omega : (l : Int) ≤ n)]
    omega

include ht hs in
theorem run_cut_h (b o h : Nat) (hh : h ≤ n) (w : World) :
    (Instr.sliceAt t (.pointer (some ⟨b, o, none⟩)) none (some (.int .i64 (h : Int))) none).run P w = .ok (.slice (some ⟨b, o, none⟩) h n) w := by
  cases hq : P.info? E with
  | none => simp [hq] at hs
  | some i =>
    simp [Instr.sliceAt, Instr.sureAddr, run_underlying ht, Instr.sliceBounds, run_sliceBound, sizeOf, typeInfo, hq, Addr.add, (by omega : 0 ≤ (h : Int)), (by omega : (h : Int) ≤ n)]

include ht hs in
theorem run_cut_lh (b o l h : Nat) (hl : l ≤ h) (hh : h ≤ n) (hn : l < n) (w : World) :
    (Instr.sliceAt t (.pointer (some ⟨b, o, none⟩)) (some (.int .i64 (l : Int))) (some (.int .i64 (h : Int))) none).run P w = .ok (.slice (some ⟨b, o + l * s, none⟩) (h - l) (n - l)) w := by
  cases hq : P.info? E with
  | none => simp [hq] at hs
  | some i =>
    have hi : i.size = s := by simpa [hq] using hs
    simp [Instr.sliceAt, Instr.sureAddr, run_underlying ht, Instr.sliceBounds, run_sliceBound, sizeOf, typeInfo, hq, hi, add_mk, (by omega : 0 ≤ (l : Int)), (by omega : (l : Int) ≤ h), (by omega : 0 ≤ (h : Int)), (by omega : (h : Int) ≤ n)]
    omega

include ht hs in
theorem run_cut_all (b o : Nat) (w : World) :
    (Instr.sliceAt t (.pointer (some ⟨b, o, none⟩)) none none none).run P w = .ok (.slice (some ⟨b, o, none⟩) n n) w := by
  cases hq : P.info? E with
  | none => simp [hq] at hs
  | some i =>
    simp [Instr.sliceAt, Instr.sureAddr, run_underlying ht, Instr.sliceBounds, sizeOf, typeInfo, hq, Addr.add]
end

/-! ### Elements of s cells, side by side -/

section
variable {E : Type} (f : E → List Value) (s : Nat) (hf : ∀ e, (f e).length = s)

def flat (es : List E) : List Value := es.flatMap f

include hf in
theorem flat_length (es : List E) : (flat f es).length = es.length * s := by
  unfold flat
  induction es with
  | nil => simp
  | cons e es ih => simp [hf e, ih, Nat.succ_mul]; omega

theorem flat_append (l m : List E) : flat f (l ++ m) = flat f l ++ flat f m := by simp [flat]
theorem flat_cons (e : E) (m : List E) : flat f (e :: m) = f e ++ flat f m := by simp [flat]
theorem flat_nil : flat f ([] : List E) = [] := rfl

include hf in
theorem flat_at : ∀ (es : List E) (i : Nat) (e : E) (r : Nat) (v : Value), es[i]? = some e → r < s → (f e)[r]? = some v → (flat f es)[i * s + r]? = some v
  | [], _, _, _, _, h, _, _ => by simp at h
  | x :: es, 0, e, r, v, h, hr, hv => by
    obtain rfl : x = e := by simpa using h
    rw [flat_cons, Nat.zero_mul, Nat.zero_add, List.getElem?_append_left (by rw [hf]; exact hr)]
    exact hv
  | x :: es, i + 1, e, r, v, h, hr, hv => by
    rw [flat_cons, List.getElem?_append_right (by rw [hf, Nat.succ_mul]; omega), hf, show (i + 1) * s + r - s = i * s + r by rw [Nat.succ_mul]; omega]
    exact flat_at es i e r v (by simpa using h) hr hv

include hf in
theorem flat_take (es : List E) (i : Nat) : (flat f es).take (i * s) = flat f (es.take i) := by
  induction es generalizing i with
  | nil => simp [flat]
  | cons e es ih =>
    cases i with
    | zero => simp [flat]
    | succ i =>
      rw [List.take_succ_cons, flat_cons, flat_cons, List.take_append, hf, List.take_of_length_le (by rw [hf, Nat.succ_mul]; omega), show (i + 1) * s - s = i * s by rw [Nat.succ_mul]; omega, ih]

include hf in
theorem flat_drop (es : List E) (i : Nat) : (flat f es).drop (i * s) = flat f (es.drop i) := by
  induction es generalizing i with
  | nil => simp [flat]
  | cons e es ih =>
    cases i with
    | zero => simp [flat]
    | succ i =>
      rw [List.drop_succ_cons, flat_cons, List.drop_append, hf, List.drop_of_length_le (by rw [hf, Nat.succ_mul]; omega), show (i + 1) * s - s = i * s by rw [Nat.succ_mul]; omega, ih, List.nil_append]
end

end Go.Proofs.YtffgkocokkhahaaDoor

/- impl.outs: values of ql as plain data, each by itself. -/
namespace Go.Proofs.YtffgkocokkhahaaDoor
open Go.RowKit

def VV.cells (x : VV) : List Value := [.string x.k, .int .i64 x.n, .int .u64 x.u, .float .f64 x.f, .string x.s]
theorem reads_one (w : World) (x : VV) (t : TypeId) : Reads (w.alloc (.cells #[.string x.k, .int .i64 x.n, .int .u64 x.u, .float .f64 x.f, .string x.s] t)) (w.heap.size + 1) 5 (some ⟨w.heap.size, 0, none⟩) 1 x.cells :=
  ⟨rfl, fun _ => ⟨_, rfl, Nat.lt_succ_self _, fun j u hu => World.news_of_block (heap_new w _) j u hu⟩⟩

theorem info_value : (Tryd.prog.info? 58).map (fun i => (i.zero, i.size, i.bytes)) = some (some (.agg #[.string ⟨#[]⟩, .int .i64 0, .int .u64 0, .float .f64 0, .string ⟨#[]⟩]), 5, 56) := by kernel_rfl

/-- What comes out of what was put in as x. -/
def OutOf (x u : VV) : Prop := ∃ y : SV, x.is y ∧ y.wf ∧ FOut y u.f ∧ u.k = y.nm ∧ u.n = y.oN ∧ u.u = y.oU ∧ u.s = y.oS

def OutsPost (l : List VV) (w : World) (e : Ending) (w' : World) : Prop :=
  ∃ A c us, e = .returned (.slice A l.length c) ∧ w'.ownsRow w.heap.size 58 5 (.slice A l.length c) l.length (flat VV.cells us) ∧ us.length = l.length ∧ (∀ (j : Nat) (x u : VV), l[j]? = some x → us[j]? = some u → OutOf x u) ∧ Below w.heap.size w w'

set_option maxHeartbeats 1000000 in
theorem outs_any (l : List VV) (A : Option Addr) (c : Nat) (vs : List Value) (w : World) (hr : Reads w w.heap.size 1 A l.length vs) (hk : RepK w l l.length vs) (hg : ∀ (j : Nat) (x : VV), l[j]? = some x → x.good) (hm : l.length ≤ 2147483647) :
    Calls Tryd.prog 39 #[.slice A l.length c] w (OutsPost l w) := by
  obtain ⟨i0, hi, hz0, hz1, hz2⟩ := info_parts info_value
  obtain ⟨len, hlen⟩ : ∃ len, len = l.length := ⟨_, rfl⟩
  have HR := Lib.hid hr
  have HK := Lib.hid hk
  have HN := Lib.hid hlen
  have HG := Lib.hid hg
  unfold OutsPost
  rw [← hlen] at hm ⊢
  clear hr hk hlen hg
  go_enter Tryd.func39, Tryd.ntmps39
  go_wp2
  go_loopw [3, 8] (fun r i wr => ∃ (k : Nat) (us : List VV), k ≤ len ∧ i = .int .i64 k ∧ wr.ownsRow w.heap.size 58 5 r k (flat VV.cells us) ∧ us.length = k ∧ (∀ (j : Nat) (x u : VV), l[j]? = some x → us[j]? = some u → OutOf x u) ∧ Below w.heap.size w wr) (fun _ i _ => len - (intOf i).toNat)
  case atStart => exact ⟨0, [], by omega, rfl, World.ownsRow_nil _ _ _ _, rfl, fun j x u _ h => by simp at h, Below.refl _ _⟩
  case round =>
    obtain ⟨k, us, hk, rfl, hown, hus, hout, hb⟩ := hrel
    have HO := Lib.hid hown
    have HU := Lib.hid hus
    have HT := Lib.hid hout
    have HB := Lib.hid hb
    have hs := hb.size
    clear hown hout hus
    by_cases hlt : k < len
    · obtain ⟨x, hx⟩ : ∃ x, l[k]? = some x := ⟨_, List.getElem?_eq_getElem (by rw [← HN.out]; exact hlt)⟩
      obtain ⟨ad, v, rfl, hbv, hv, hcv⟩ := (HR.out.below hb).at_ (k := k) (by rw [← HN.out]; exact hlt)
      obtain ⟨y, hy, hrep⟩ := (HK.out.below hb).2 k x v hx hv
      have HX := Lib.hid hx
      have HY := Lib.hid hy
      have hwf := toSV_wf (HG.out k x hx).1 (HG.out k x hx).2 hy
      have HW := Lib.hid hwf
      have HC := Lib.hid (fun W (hW : Below wr.heap.size wr W) => out_any y hwf v W (hrep.below hW))
      clear hx hv hy hrep hb hwf
      go_wp2_with (first
        | (go_at_call 74; refine (HC.out _ (Below.refl _ _)).mono ?_; rintro e w1 ⟨f, rfl, hb1, hf⟩; have HB1 := Lib.hid hb1; have HF := Lib.hid hf; have hs1 := hb1.size; clear hb1 hf)
        | (at_builtin
           refine wpList_append_any _ rfl (.tmp 12) (.tmp 15) _ rfl w.heap.size 58 i0 _ 5 56 Tryd.underlying25 hi hz0 hz1 hz2 rfl (by omega) u3 k (flat VV.cells us) rfl
             ((own_below HO.out HB1.out).alloc _) (w1.heap.size + 1) (some ⟨w1.heap.size, 0, none⟩) 1 1 (VV.cells ⟨y.nm, y.oN, y.oU, f, y.oS⟩) rfl (reads_one _ ⟨y.nm, y.oN, y.oU, f, y.oS⟩ _) (fun u hu => by simp [VV.cells] at hu; rcases hu with rfl | rfl | rfl | rfl | rfl <;> rfl) (by simp only [maxLen]; omega) (by omega) (by simp; omega) ?_
           intro v2 w2 hown2 hg2 _
           have HO2 := Lib.hid hown2; have HG2 := Lib.hid hg2; clear hown2 hg2))
      refine ⟨⟨k + 1, us ++ [⟨y.nm, y.oN, y.oU, f, y.oS⟩], by omega, by push_cast; rfl, by rw [flat_append]; simpa [flat] using HO2.out, by simp [HU.out], ?_, ?_⟩, by simp [intOf]; omega⟩
      · intro j a u ha hu
        rcases Nat.lt_or_ge j k with h | h
        · rw [List.getElem?_append_left (by rw [HU.out]; exact h)] at hu
          exact HT.out j a u ha hu
        · rw [List.getElem?_append_right (by rw [HU.out]; exact h), HU.out] at hu
          have hj : j - k = 0 := by
            rcases Nat.eq_zero_or_pos (j - k) with h | h
            · exact h
            · rw [List.getElem?_eq_none (by simp; omega)] at hu
              cases hu
          have hjk : j = k := by omega
          subst hjk
          rw [hj] at hu
          simp at hu
          subst hu
          have : a = x := Option.some.inj (ha.symm.trans HX.out)
          subst this
          exact ⟨y, HY.out, HW.out, HF.out, rfl, rfl, rfl, rfl⟩
      · have hb1 : Below w.heap.size w w1 := up_below' HB.out HB1.out
        exact (hb1.alloc (by omega) _).grown HG2.out (by simp; omega) (fun g hg => (HO.out.lt g hg).1)
    · have hke : k = len := by omega
      subst hke
      obtain ⟨A', c', rfl⟩ := own_form HO.out
      go_wp2
      go_ret
      exact ⟨A', c', us, rfl, HO.out, HU.out, HT.out, HB.out⟩

end Go.Proofs.YtffgkocokkhahaaDoor

/- laws.allConcrete of a list of values. -/
namespace Go.Proofs.YtffgkocokkhahaaDoor
open Go.RowKit

def VV.conc (x : VV) : Bool := concB (Kd.of x.k.toList) x.n x.u x.f x.s
def concL (l : List VV) (most : Int) : Bool := decide ((l.length : Int) ≤ most) && l.all VV.conc

set_option maxHeartbeats 400000 in
theorem allConcrete_any (l : List VV) (A : Option Addr) (c : Nat) (most : Int) (w : World) (hl : LAt w A l) (hm : l.length ≤ 9223372036854775807) :
    Calls Tryd.prog 8 #[.slice A l.length c, .int .i64 most] w fun e w' => e = .returned (.bool (concL l most)) ∧ Below w.heap.size w w' := by
  obtain ⟨len, hlen⟩ : ∃ len, len = l.length := ⟨_, rfl⟩
  have HL := Lib.hid hl
  have HN := Lib.hid hlen
  rw [← hlen] at hm ⊢
  have HB : Hid (most < (len : Int) → concL l most = false) := fun h => by unfold concL; rw [← hlen]; simp; omega
  have HE : Hid (∀ (k : Nat) (x : VV), l[k]? = some x → x.conc = false → concL l most = false) := fun k x hx hf => by
    unfold concL
    rw [Bool.and_eq_false_iff]
    right
    rw [List.all_eq_false]
    exact ⟨x, List.mem_of_getElem? hx, by rw [hf]; decide⟩
  have HY : Hid ((len : Int) ≤ most → (∀ (j : Nat) (x : VV), j < len → l[j]? = some x → x.conc = true) → concL l most = true) := fun h1 h2 => by
    unfold concL
    rw [Bool.and_eq_true, decide_eq_true_eq, List.all_eq_true]
    refine ⟨by omega, fun x hx => ?_⟩
    obtain ⟨j, hj, rfl⟩ := List.getElem_of_mem hx
    exact h2 j _ (by omega) (List.getElem?_eq_getElem hj)
  clear hl hlen
  have HF0 := Lib.hid (fun (x : VV) (h : x.conc = false) w => show Calls Tryd.prog 20 #[.agg #[.string x.k, .int .i64 x.n, .int .u64 x.u, .float .f64 x.f, .string x.s]] w fun e w' => e = .returned (.bool false) ∧ Below w.heap.size w w' by rw [← h]; exact concrete_any x.k x.n x.u x.f x.s w)
  have HF1 := Lib.hid (fun (x : VV) (h : x.conc = true) w => show Calls Tryd.prog 20 #[.agg #[.string x.k, .int .i64 x.n, .int .u64 x.u, .float .f64 x.f, .string x.s]] w fun e w' => e = .returned (.bool true) ∧ Below w.heap.size w w' by rw [← h]; exact concrete_any x.k x.n x.u x.f x.s w)
  go_enter Tryd.func8, Tryd.ntmps8
  go_wp2
  · go_ret
    exact ⟨by rw [HB.out (by omega)]; rfl, Below.refl _ _⟩
  go_loopw [12] (fun i wr => ∃ k : Nat, k ≤ len ∧ i = .int .i64 k ∧ Below w.heap.size w wr ∧ ∀ (j : Nat) (x : VV), j < k → l[j]? = some x → x.conc = true) (fun i _ => len - (intOf i).toNat)
  case atStart => exact ⟨0, by omega, rfl, Below.refl _ _, fun _ _ h => by omega⟩
  case round =>
    obtain ⟨k, hk, rfl, hb, hall⟩ := hrel
    have HA := Lib.hid hall
    clear hall
    by_cases hlt : k < len
    · obtain ⟨x, hx'⟩ : ∃ x, l[k]? = some x := ⟨_, List.getElem?_eq_getElem (by rw [← HN.out]; exact hlt)⟩
      have HX := Lib.hid hx'
      obtain ⟨ad, rfl, hbl, h0, h1, h2, h3, h4⟩ := (HL.out.below hb) k x hx'
      clear hx'
      have hs := hb.size
      cases hf : x.conc with
      | false =>
        have HW := Lib.hid (HF0.out x hf)
        have hf' := Lib.hid hf
        clear hf
        go_wp2_with (go_at_call 20; refine (HW.out _).mono ?_; rintro e w1 ⟨rfl, hb1⟩)
        go_ret
        exact ⟨by rw [HE.out k x HX.out hf'.out]; rfl, up_below' hb hb1⟩
      | true =>
        have HW := Lib.hid (HF1.out x hf)
        have hf' := Lib.hid hf
        clear hf
        go_wp2_with (go_at_call 20; refine (HW.out _).mono ?_; rintro e w1 ⟨rfl, hb1⟩)
        refine ⟨⟨k + 1, by omega, by push_cast; rfl, up_below' hb hb1, fun j y hj hy => ?_⟩, by simp [intOf]; omega⟩
        rcases Nat.lt_or_ge j k with h | h
        · exact HA.out j y h hy
        · obtain rfl : j = k := by omega
          obtain rfl : y = x := Option.some.inj (hy.symm.trans HX.out)
          exact hf'.out
    · have hke : k = len := by omega
      subst hke
      go_wp2
      go_ret
      exact ⟨by rw [HY.out (by omega) HA.out]; rfl, hb⟩

end Go.Proofs.YtffgkocokkhahaaDoor

/- ql.collateRank and collateDiffType of any value. PRINTED BY wip/tpl/gen_col.py. -/
namespace Go.Proofs.YtffgkocokkhahaaDoor
open Go.RowKit

set_option maxRecDepth 100000 in
set_option maxHeartbeats 1000000 in
theorem rank_any (x : SV) (v : Value) (w : World) (h : Rep w x v) :
    Calls Tryd.prog 139 #[v] w fun e w' => e = .returned (.int .i64 x.rank) ∧ w = w' := by
  cases x with
  | blob l =>
    obtain ⟨a, cap, rfl, h1, h2⟩ := h
    clear h1 h2
    go_enter Tryd.func139, Tryd.ntmps139
    go_wp2
    go_ret
    exact ⟨rfl, rfl⟩
  | int q n =>
    obtain rfl := h
    cases q <;>
    · simp only [kindT]
      go_enter Tryd.func139, Tryd.ntmps139
      go_wp2
      go_ret
      exact ⟨rfl, rfl⟩
  | _ =>
    obtain rfl := h
    go_enter Tryd.func139, Tryd.ntmps139
    go_wp2
    go_ret
    exact ⟨rfl, rfl⟩


set_option maxRecDepth 100000 in
set_option maxHeartbeats 1000000 in
theorem diffN_any (r s : Int) (u v : Value) (w : World)
    (H1 : Hid (Calls Tryd.prog 139 #[u] w fun e w' => e = .returned (.int .i64 r) ∧ w = w'))
    (H2 : Hid (Calls Tryd.prog 139 #[v] w fun e w' => e = .returned (.int .i64 s) ∧ w = w')) :
    Calls Tryd.prog 124 #[u, v] w fun e w' => e = .returned (.int .i64 (if r < s then -1 else if r > s then 1 else 0)) ∧ w = w' := by
  by_cases h1 : r < s
  · rw [if_pos h1]
    go_enter Tryd.func124, Tryd.ntmps124
    go_wp2_with (first | (go_at_call_of 139 u; refine H1.out.mono ?_; rintro e w' ⟨rfl, rfl⟩) | (go_at_call_of 139 v; refine H2.out.mono ?_; rintro e w' ⟨rfl, rfl⟩))
    go_ret
    exact ⟨rfl, rfl⟩
  · rw [if_neg h1]
    by_cases h2 : s < r
    · rw [if_pos h2]
      go_enter Tryd.func124, Tryd.ntmps124
      go_wp2_with (first | (go_at_call_of 139 u; refine H1.out.mono ?_; rintro e w' ⟨rfl, rfl⟩) | (go_at_call_of 139 v; refine H2.out.mono ?_; rintro e w' ⟨rfl, rfl⟩))
      go_ret
      exact ⟨rfl, rfl⟩
    · rw [if_neg h2]
      go_enter Tryd.func124, Tryd.ntmps124
      go_wp2_with (first | (go_at_call_of 139 u; refine H1.out.mono ?_; rintro e w' ⟨rfl, rfl⟩) | (go_at_call_of 139 v; refine H2.out.mono ?_; rintro e w' ⟨rfl, rfl⟩))
      go_ret
      exact ⟨rfl, rfl⟩

theorem diff_rep (x y : SV) (u v : Value) (w : World) (hu : Rep w x u) (hv : Rep w y v) :
    Calls Tryd.prog 124 #[u, v] w fun e w' => e = .returned (.int .i64 (byRank x y)) ∧ w = w' :=
  diffN_any x.rank y.rank u v w (rank_any x u w hu) (rank_any y v w hv)

end Go.Proofs.YtffgkocokkhahaaDoor
