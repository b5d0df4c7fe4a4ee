/-
  A slice that reads as a list of cells; append onto a row of the call's own, its source known by its cells; a row of the call's own over later worlds. || What the conversions between float64 and float32 do in the model: exact ones; a NaN and a number too great for float32 are drawn. || Values of the database as the program has them; the walk of impl.in. PRINTED BY wip/tpl/gen_in.py. || impl.ins: a list of values brought into the database. || The walk of impl.ins.
-/
import Derived.Test.YtffgkocokkhahaaDoorTp01
import Derived.Below
import Derived.Laws.OwnMore
import Derived.Deep.AppendLies
import Derived.Deep.Draws
import Derived.Maps.AppendAt
import Derived.RegionTactic
import Derived.OwnWalk

/- A slice that reads as a list of cells; append onto a row of the call's own, its source known by its cells; a row of the call's own over later worlds. -/
namespace Go.Proofs.YtffgkocokkhahaaDoor
open Go.RowKit

def Reads (w : World) (B size : Nat) (A : Option Addr) (n : Nat) (xs : List Value) : Prop :=
  xs.length = n * size ∧ (0 < n → ∃ ad, A = some ad ∧ ad.block < B ∧ ∀ j u, xs[j]? = some u → w.cell? (ad.add j) = some u)

theorem Reads.at_ {w : World} {B n : Nat} {A : Option Addr} {xs : List Value} {k : Nat} (h : Reads w B 1 A n xs) (hk : k < n) : ∃ ad u, A = some ad ∧ ad.block < B ∧ xs[k]? = some u ∧ w.cell? (ad.add k) = some u := by
  obtain ⟨ad, e, hb, hc⟩ := h.2 (by omega)
  have hl : k < xs.length := by have := h.1; omega
  exact ⟨ad, xs[k], e, hb, List.getElem?_eq_getElem hl, hc k _ (List.getElem?_eq_getElem hl)⟩
theorem Reads.below {w w' : World} {size n : Nat} {A : Option Addr} {xs : List Value} (h : Reads w w.heap.size size A n xs) (hb : Below w.heap.size w w') : Reads w' w'.heap.size size A n xs :=
  ⟨h.1, fun hn => by
    obtain ⟨ad, e, hlt, hc⟩ := h.2 hn
    exact ⟨ad, e, Nat.lt_of_lt_of_le hlt hb.size, fun j u hu => (hb.cell (by rw [block_add]; exact hlt)).trans (hc j u hu)⟩⟩
theorem Reads.of_own {w : World} {base size n : Nat} {A : Option Addr} {xs : List Value} {e : TypeId} {c : Nat} (h : w.ownsRow base e size (.slice A n c) n xs) : Reads w w.heap.size size A n xs := by
  refine ⟨h.1, fun hn => ?_⟩
  obtain ⟨g, cap, hv, _, hlt⟩ := h.form hn
  have hA : A = some ⟨g, 0, none⟩ := by injection hv
  subst hA
  exact ⟨_, rfl, hlt, h.cells (g := g) rfl⟩

theorem own_below {w w' : World} {base : Nat} {e : TypeId} {size : Nat} {v : Value} {n : Nat} {xs : List Value} (h : w.ownsRow base e size v n xs) (hb : Below w.heap.size w w') : w'.ownsRow base e size v n xs := by
  obtain ⟨h1, h2⟩ := h
  refine ⟨h1, ?_⟩
  rcases h2 with h2 | ⟨g, cap, cur, e1, e2, e3, e4⟩
  · exact .inl h2
  · refine .inr ⟨g, cap, cur, e1, e2, ?_, e4⟩
    have hlt : g < w.heap.size := by
      rcases Nat.lt_or_ge g w.heap.size with h' | h'
      · exact h'
      · rw [Array.getElem?_eq_none h'] at e3; cases e3
    exact (hb.block g hlt).trans e3

section
variable {P : Program} (w : World)

theorem run_append_of_nil (base : Nat) (t ty e : TypeId) (i : TypeInfo) (size : Nat) (ht : P.underlying t = some (.slice e)) (hi : P.info? e = some i)
    (v : Value) (n : Nat) (xs : List Value) (hown : w.ownsRow base e size v n xs) (c : Nat) : (Builtin.append_ #[t, t] ty #[v, .slice none 0 c]).run P w = .ok v w := by
  rcases hown.2 with ⟨rfl, rfl⟩ | ⟨g, cap, cur, rfl, _, _, hnc, _⟩
  · simp [Builtin.append_, run_underlying ht, sizeOf, typeInfo, hi, Builtin.lenOf, Builtin.firstCells]
  · simp [Builtin.append_, run_underlying ht, sizeOf, typeInfo, hi, Builtin.lenOf, Builtin.firstCells, hnc, storeCells]

theorem run_append_any (base : Nat) (t ty e : TypeId) (i : TypeInfo) (z : Value) (size bytes : Nat) (ht : P.underlying t = some (.slice e)) (hi : P.info? e = some i) (hz : i.zero = some z)
    (hsize : i.size = size) (hby : i.bytes = bytes) (hzs : z.cells.size = size) (hsz : 0 < size)
    (v : Value) (n : Nat) (xs : List Value) (hown : w.ownsRow base e size v n xs)
    (B : Nat) (A : Option Addr) (m c : Nat) (news : List Value) (hr : Reads w B size A m news) (h1 : ∀ u ∈ news, u.oneCell' = true)
    (h63 : n + m ≤ maxLen) (hbytes : (n + m) * bytes ≤ 140737488355328) (hbase : base ≤ w.heap.size) :
    ∃ v' w', (Builtin.append_ #[t, t] ty #[v, .slice A m c]).run P w = .ok v' w' ∧ w'.ownsRow base e size v' (n + m) (xs ++ news) ∧ w.grownBy w' v.ownBlock ∧
      (v'.ownBlock = v.ownBlock ∨ v'.ownBlock = some w.heap.size) := by
  rcases A with _ | ad
  · have hm : m = 0 := by
      rcases Nat.eq_zero_or_pos m with h0 | h0
      · exact h0
      · obtain ⟨ad, h, _⟩ := hr.2 h0
        cases h
    subst hm
    have hn : news = [] := List.eq_nil_of_length_eq_zero (by simpa using hr.1)
    subst hn
    exact ⟨v, w, run_append_of_nil w base t ty e i size ht hi v n xs hown c, by simpa using hown, World.grownBy.refl w _, .inl rfl⟩
  · have hcells : ∀ j u, news[j]? = some u → w.cell? (ad.add j) = some u := by
      intro j u hu
      rcases Nat.eq_zero_or_pos m with h0 | h0
      · subst h0
        have hn : news = [] := List.eq_nil_of_length_eq_zero (by simpa using hr.1)
        subst hn
        simp at hu
      · obtain ⟨ad', h, _, hc⟩ := hr.2 h0
        injection h with h
        subst h
        exact hc j u hu
    obtain ⟨v', w', hrun, h2, h3, _, h5⟩ := run_append_own_at (P := P) w base t ty e i z size bytes ht hi hz hsize hby hzs hsz v n xs hown ad m c news hr.1 hcells h1 h63 hbytes hbase
    exact ⟨v', w', hrun, h2, h3, h5⟩

theorem wp_append_any {o : Oper} {a : Act} {K : Act → World → Prop} {Q : Exit → Act → World → Prop} (s x : Operand) (t : TypeId)
    (ho : o.op = .call { callee := .builtin .append, args := #[s, x], argTypes := #[t, t] })
    (base : Nat) (e : TypeId) (i : TypeInfo) (z : Value) (size bytes : Nat) (ht : P.underlying t = some (.slice e)) (hi : P.info? e = some i) (hz : i.zero = some z)
    (hsize : i.size = size) (hby : i.bytes = bytes) (hzs : z.cells.size = size) (hsz : 0 < size)
    (v : Value) (n : Nat) (xs : List Value) (hs : a.eval s = v) (hown : w.ownsRow base e size v n xs)
    (B : Nat) (A : Option Addr) (m c : Nat) (news : List Value) (hx : a.eval x = .slice A m c) (hr : Reads w B size A m news) (h1 : ∀ u ∈ news, u.oneCell' = true)
    (h63 : n + m ≤ maxLen) (hbytes : (n + m) * bytes ≤ 140737488355328) (hbase : base ≤ w.heap.size)
    (h : ∀ v' w', w'.ownsRow base e size v' (n + m) (xs ++ news) → w.grownBy w' v.ownBlock → (v'.ownBlock = v.ownBlock ∨ v'.ownBlock = some w.heap.size) → K (a.put o.dst v') w') : o.wp P a w K Q := by
  obtain ⟨v', w', hrun, h2, h3, h4⟩ := run_append_any (P := P) w base t o.type e i z size bytes ht hi hz hsize hby hzs hsz v n xs hown B A m c news hr h1 h63 hbytes hbase
  unfold Oper.wp execOp
  simp only [ho, resolve, invoke, builtin, Sem.run_bind, Sem.run_pure, Result.andThen_ok, List.map_toArray, List.map_cons, List.map_nil, hs, hx, hrun]
  exact h v' w' h2 h3 h4

theorem wpList_append_any {ops : Array Oper} {rest : List Oper} {o : Oper} {a : Act} {Q : Exit → Act → World → Prop} (hgd : o.guard = none) (s x : Operand) (t : TypeId)
    (ho : o.op = .call { callee := .builtin .append, args := #[s, x], argTypes := #[t, t] })
    (base : Nat) (e : TypeId) (i : TypeInfo) (z : Value) (size bytes : Nat) (ht : P.underlying t = some (.slice e)) (hi : P.info? e = some i) (hz : i.zero = some z)
    (hsize : i.size = size) (hby : i.bytes = bytes) (hzs : z.cells.size = size) (hsz : 0 < size)
    (v : Value) (n : Nat) (xs : List Value) (hs : a.eval s = v) (hown : w.ownsRow base e size v n xs)
    (B : Nat) (A : Option Addr) (m c : Nat) (news : List Value) (hx : a.eval x = .slice A m c) (hr : Reads w B size A m news) (h1 : ∀ u ∈ news, u.oneCell' = true)
    (h63 : n + m ≤ maxLen) (hbytes : (n + m) * bytes ≤ 140737488355328) (hbase : base ≤ w.heap.size)
    (h : ∀ v' w', w'.ownsRow base e size v' (n + m) (xs ++ news) → w.grownBy w' v.ownBlock → (v'.ownBlock = v.ownBlock ∨ v'.ownBlock = some w.heap.size) → wpList P ops Q rest (a.put o.dst v') w') : wpList P ops Q (o :: rest) a w :=
  wpList_plain hgd fun _ hK => wp_append_any w s x t ho base e i z size bytes ht hi hz hsize hby hzs hsz v n xs hs hown B A m c news hx hr h1 h63 hbytes hbase fun v' w' h2 h3 h4 => hK _ _ (h v' w' h2 h3 h4)
end

theorem reads_new (w : World) (v : Value) (t : TypeId) : Reads (w.alloc (.cells #[v] t)) (w.heap.size + 1) 1 (some ⟨w.heap.size, 0, none⟩) 1 [v] := by
  refine ⟨rfl, fun _ => ⟨_, rfl, Nat.lt_succ_self _, fun j u hu => ?_⟩⟩
  cases j with
  | zero =>
    obtain rfl : v = u := by simpa using hu
    exact World.cell?_alloc_mark w #[v] t (0, 0) 0
  | succ j => simp at hu

end Go.Proofs.YtffgkocokkhahaaDoor

/- What the conversions between float64 and float32 do in the model: exact ones; a NaN and a number too great for float32 are drawn. -/
namespace Go.Proofs.YtffgkocokkhahaaDoor
open Go.RowKit

/-- What a float64 that is no number becomes as a float32 (drawn), and back. -/
def nan32 (W : World) (f : Nat) : Nat := (Question.nanConv .f32 f).cut (W.tape W.drawn (.nanConv .f32 f))
def nan64 (W : World) (f : Nat) : Nat := (Question.nanConv .f64 f).cut (W.tape W.drawn (.nanConv .f64 f))
/-- What a float64 too great for a float32 becomes (drawn). -/
def over32 (W : World) (f : Nat) : Nat := (Question.floatToFloat f).cut (W.tape W.drawn (.floatToFloat f))
/-- A float32 as a float64; how often is drawn. -/
def wide (W : World) (x : Nat) : Nat := if (Ieee.single.read x).isNaN = true then nan64 W x else Flt.up x
def wideN (x : Nat) : Nat := if (Ieee.single.read x).isNaN = true then 1 else 0

theorem nan_of_rung (f : Ieee.Format) {x : Nat} (h : f.infRung < x % f.signWeight) (h2 : f.binade ≤ f.infRung) : (f.read x).isNaN = true := by
  unfold Ieee.Format.read
  simp only
  rw [if_neg (by omega), if_neg (by omega), if_neg (by omega)]
  rfl
theorem isNaN_nan32 (W : World) (f : Nat) : (Ieee.single.read (nan32 W f)).isNaN = true := by
  refine nan_of_rung _ ?_ (by rw [Flt.s_inf, Flt.s_bin]; omega)
  rw [Flt.s_inf, Flt.s_sign]
  unfold nan32 Question.cut
  generalize W.tape W.drawn (.nanConv .f32 f) = t
  simp only [Nat.reducePow, Nat.reduceSub]
  have hp : t % 2 = 0 ∨ t % 2 = 1 := by omega
  rcases hp with h | h <;> rw [h] <;> omega
theorem isNaN_nan64 (W : World) (f : Nat) : (Ieee.double.read (nan64 W f)).isNaN = true := by
  refine nan_of_rung _ ?_ (by rw [Flt.d_inf, Flt.d_bin]; omega)
  rw [Flt.d_inf, Flt.d_sign]
  unfold nan64 Question.cut
  generalize W.tape W.drawn (.nanConv .f64 f) = t
  simp only [Nat.reducePow, Nat.reduceSub]
  have hp : t % 2 = 0 ∨ t % 2 = 1 := by omega
  rcases hp with h | h <;> rw [h] <;> omega
theorem nan32_lt (W : World) (f : Nat) : nan32 W f < 4294967296 := by
  unfold nan32 Question.cut
  generalize W.tape W.drawn (.nanConv .f32 f) = t
  simp only [Nat.reducePow, Nat.reduceSub]
  have hp : t % 2 = 0 ∨ t % 2 = 1 := by omega
  rcases hp with h | h <;> rw [h] <;> omega
theorem over32_lt (W : World) (f : Nat) : over32 W f < 4294967296 := Nat.mod_lt _ (by decide)

theorem run_nan32 (f : Nat) (h : (Ieee.double.read f).isNaN = true) (W : World) : (convert 56 121 (.float .f64 f)).run Tryd.prog W = .ok (.float .f32 (nan32 W f)) W.drew := by
  have hs : Tryd.prog.underlying 56 = some (.float .f64) := Tryd.underlying56
  have he : FloatKind.f64.decode f = Ieee.double.read f := rfl
  cases hd : Ieee.double.read f with
  | nan s t => simp [convert, run_underlying hs, run_underlying Tryd.underlying121, Conv.floatToFloat, he, hd, Question.forced, nan32]
  | infinity s => rw [hd] at h; cases h
  | number s m p => rw [hd] at h; cases h
theorem run_nan64 (f : Nat) (h : (Ieee.single.read f).isNaN = true) (W : World) : (convert 121 56 (.float .f32 f)).run Tryd.prog W = .ok (.float .f64 (nan64 W f)) W.drew := by
  have hs : Tryd.prog.underlying 121 = some (.float .f32) := Tryd.underlying121
  have he : FloatKind.f32.decode f = Ieee.single.read f := rfl
  cases hd : Ieee.single.read f with
  | nan s t => simp [convert, run_underlying hs, run_underlying Tryd.underlying56, Conv.floatToFloat, he, hd, Question.forced, nan64]
  | infinity s => rw [hd] at h; cases h
  | number s m p => rw [hd] at h; cases h
theorem run_over32 (f : Nat) (h : (Ieee.single.read (Flt.down f)).isInfinity = true) (h2 : (Ieee.double.read f).isInfinity = false) (h3 : (Ieee.double.read f).isNaN = false) (W : World) :
    (convert 56 121 (.float .f64 f)).run Tryd.prog W = .ok (.float .f32 (over32 W f)) W.drew := by
  have hs : Tryd.prog.underlying 56 = some (.float .f64) := Tryd.underlying56
  have he : FloatKind.f64.decode f = Ieee.double.read f := rfl
  cases hd : Ieee.double.read f with
  | nan s t => rw [hd] at h3; cases h3
  | infinity s => rw [hd] at h2; cases h2
  | number s m p =>
    have hi : (FloatKind.f32.decode (FloatKind.f32.encode (.number s m p))).isInfinity = true := by
      unfold Flt.down at h
      rw [hd] at h
      exact h
    simp [convert, run_underlying hs, run_underlying Tryd.underlying121, Conv.floatToFloat, he, hd, hi, Question.forced, over32]
/-- Where it is neither, the nearest one. -/
theorem run_narrow (f : Nat) (h : ((Ieee.single.read (Flt.down f)).isInfinity && !(Ieee.double.read f).isInfinity) = false) (h3 : (Ieee.double.read f).isNaN = false) (W : World) :
    (convert 56 121 (.float .f64 f)).run Tryd.prog W = .ok (.float .f32 (Flt.down f)) W := by
  refine run_convert_float_float W 56 121 .f64 .f32 f _ (by rw [Tryd.underlying56]; rfl) Tryd.underlying121 ?_
  unfold floatToFloatBits
  rw [if_neg (by decide)]
  have he : FloatKind.f64.decode f = Ieee.double.read f := rfl
  rw [he]
  unfold Flt.down at h ⊢
  cases hd : Ieee.double.read f with
  | nan s t => rw [hd] at h3; cases h3
  | infinity s => rfl
  | number s m p =>
    rw [hd] at h
    have hi : (FloatKind.f32.decode (FloatKind.f32.encode (.number s m p))).isInfinity = false := by
      have h' : ((Ieee.single.read (Ieee.single.write (.number s m p))).isInfinity && !false) = false := h
      exact (by simpa using h' : (Ieee.single.read (Ieee.single.write (.number s m p))).isInfinity = false)
    simp only [hi]
    rfl
theorem run_wide (x : Nat) (h : (Ieee.single.read x).isNaN = false) (W : World) :
    (convert 121 56 (.float .f32 x)).run Tryd.prog W = .ok (.float .f64 (Flt.up x)) W := by
  refine run_convert_float_float W 121 56 .f32 .f64 x _ (by rw [Tryd.underlying121]; rfl) Tryd.underlying56 ?_
  obtain ⟨_, _, _, hu⟩ := Flt.up_key h
  unfold floatToFloatBits
  rw [if_neg (by decide)]
  have he : FloatKind.f32.decode x = Ieee.single.read x := rfl
  rw [he]
  unfold Flt.up at hu ⊢
  cases hd : Ieee.single.read x with
  | nan s t => rw [hd] at h; cases h
  | infinity s => rfl
  | number s m p =>
    rw [hd] at hu
    have hi : (FloatKind.f64.decode (FloatKind.f64.encode (.number s m p))).isInfinity = false := hu
    simp only [hi]
    rfl
theorem run_wide_any (x : Nat) (W : World) :
    (convert 121 56 (.float .f32 x)).run Tryd.prog W = .ok (.float .f64 (wide W x)) (W.drewN (wideN x)) := by
  by_cases h : (Ieee.single.read x).isNaN = true
  · rw [run_nan64 x h, wide, wideN, if_pos h, if_pos h]
    rfl
  · rw [run_wide x (by simpa using h), wide, wideN, if_neg h, if_neg h]
    rfl

theorem numB_nan (f : Nat) : numB f = !(Ieee.double.read f).isNaN := by
  unfold numB Ieee.Format.order
  cases hd : Ieee.double.read f with
  | nan s t => rfl
  | infinity s => cases s <;> rfl
  | number s m p =>
    simp only [Ieee.Datum.order, Ieee.Datum.isNaN, Bool.not_false]
    generalize Ieee.signed s m _ = z
    have : compare z z = Ordering.eq := by simp [compare, compareOfLessAndEq]
    rw [this]
    rfl
theorem bitsV_nan {f : Nat} (h : (Ieee.double.read f).isNaN = true) : bitsV f = 1 := by
  unfold bitsV
  rw [numB_nan, h]
  rfl
theorem bitsV_num {f : Nat} (h : (Ieee.double.read f).isNaN = false) : bitsV f = f := by
  unfold bitsV
  rw [numB_nan, h]
  rfl

/-- A drawn float32 is not the float64 that was too great. -/
theorem wide_over {W : World} {x f : Nat} (hx : x < 4294967296) (h : (Ieee.single.read (Flt.down f)).isInfinity = true) (h2 : (Ieee.double.read f).isInfinity = false) (h3 : (Ieee.double.read f).isNaN = false) :
    bitsV (wide W x) ≠ bitsV f := by
  rw [bitsV_num h3]
  unfold wide
  by_cases hn : (Ieee.single.read x).isNaN = true
  · rw [if_pos hn, bitsV_nan (isNaN_nan64 _ _)]
    rintro rfl
    revert h
    decide +kernel
  · have hn' : (Ieee.single.read x).isNaN = false := by simpa using hn
    obtain ⟨_, _, k3, k4⟩ := Flt.up_key hn'
    rw [if_neg hn, bitsV_num k3]
    rintro rfl
    rw [Flt.down_up hx hn'] at h
    rw [k4, h] at h2
    cases h2

end Go.Proofs.YtffgkocokkhahaaDoor

/- Values of the database as the program has them; the walk of impl.in. PRINTED BY wip/tpl/gen_in.py. -/
namespace Go.Proofs.YtffgkocokkhahaaDoor
open Go.RowKit

/-- The types of integers by their kinds. -/
def kindT : IntKind → TypeId
  | .i8 => 199
  | .i16 => 200
  | .i32 => 21
  | .i64 => 2
  | .u8 => 5
  | .u16 => 201
  | .u32 => 156
  | .u64 => 55

/-- What the program has for a value. A blob lies in memory. -/
def Rep (w : World) : SV → Value → Prop
  | .null, v => v = .nilIface
  | .bool b, v => v = .iface 4 (.bool b)
  | .int k n, v => v = .iface (kindT k) (.int k n)
  | .f32 x, v => v = .iface 121 (.float .f32 x)
  | .f64 x, v => v = .iface 56 (.float .f64 x)
  | .str s, v => v = .iface 9 (.string s)
  | .blob l, v => ∃ a cap, v = .iface 202 (.slice (some a) l.length cap) ∧ a.block < w.heap.size ∧ ∀ j (hj : j < l.length), w.cell? (a.add j) = some (.int .u8 (l[j].toNat : Int))
  | .iInt n, v => v = .iface 249 (.int .i64 n)
  | .iRune n, v => v = .iface 250 (.int .i32 n)
  | .iUint n, v => v = .iface 251 (.int .u64 n)
  | .iFloat x, v => v = .iface 252 (.float .f64 x)

theorem Rep.below {w w' : World} {x : SV} {v : Value} (h : Rep w x v) (hb : Below w.heap.size w w') : Rep w' x v := by
  cases x with
  | blob l =>
    obtain ⟨a, cap, hv, hlt, hc⟩ := h
    refine ⟨a, cap, hv, Nat.lt_of_lt_of_le hlt hb.size, fun j hj => ?_⟩
    rw [hb.cell (p := a.add j) (by rw [show (a.add j).block = a.block from by unfold Addr.add; split <;> rfl]; exact hlt)]
    exact hc j hj
  | _ => exact h

/-- A value as data. -/
def toSV (kd : Kd) (n u : Int) (f : Nat) (s : ByteArray) : SV :=
  match kd with
  | .null | .other => .null
  | .bool => .bool (n != 0)
  | .int k => .int k (if k.signed = true then n else u)
  | .f32 => .f32 (Flt.down f)
  | .f64 => .f64 f
  | .str => .str s
  | .blob => .blob s.data.toList
  | .iInt => .iInt n
  | .iRune => .iRune n
  | .iUint => .iUint u
  | .iFloat => .iFloat f

/-- What is in a value fits its fields. -/
def Rng (n u : Int) (f : Nat) : Prop := -9223372036854775808 ≤ n ∧ n ≤ 9223372036854775807 ∧ 0 ≤ u ∧ u ≤ 18446744073709551615 ∧ f < 18446744073709551616


/-- y is what a value is as data; a float32 that is no number: any one that is none. -/
def SVof (kd : Kd) (n u : Int) (f : Nat) (s : ByteArray) (y : SV) : Prop :=
  if kd = .f32 ∧ numB f = false then ∃ x, y = .f32 x ∧ (Ieee.single.read x).isNaN = true ∧ x < 4294967296 else y = toSV kd n u f s

/-- The value that comes in is what the program has for it: y; of a float32 that is no number: some one that is none. -/
def InPost (kd : Kd) (n u : Int) (f : Nat) (s : ByteArray) (w : World) (e : Ending) (w' : World) : Prop :=
  ∃ v y, e = .returned v ∧ Rep w' y v ∧ Below w.heap.size w w' ∧ SVof kd n u f s y

set_option maxRecDepth 100000 in
set_option maxHeartbeats 1000000 in
theorem in_null (k : ByteArray) (hk : Kd.of k.toList = .null) (n u : Int) (f : Nat) (s : ByteArray) (w : World) :
    Calls Tryd.prog 64 #[.agg #[.string k, .int .i64 n, .int .u64 u, .float .f64 f, .string s]] w fun e w' => e = .returned (.nilIface) ∧ Below w.heap.size w w' := by
  have hl := Kd.of_lit _ hk (by simp)
  clear hk
  simp only [Kd.lit] at hl
  go_enter Tryd.func64, Tryd.ntmps64
  go_wp2_with (fail)
  go_ret
  exact ⟨rfl, (Below.refl _ _).alloc (Nat.le_refl _) _⟩

set_option maxRecDepth 100000 in
set_option maxHeartbeats 1000000 in
theorem in_bool (k : ByteArray) (hk : Kd.of k.toList = .bool) (n u : Int) (f : Nat) (s : ByteArray) (w : World) :
    Calls Tryd.prog 64 #[.agg #[.string k, .int .i64 n, .int .u64 u, .float .f64 f, .string s]] w fun e w' => e = .returned (.iface 4 (.bool (n != 0))) ∧ Below w.heap.size w w' := by
  have hl := Kd.of_lit _ hk (by simp)
  clear hk
  simp only [Kd.lit] at hl
  go_enter Tryd.func64, Tryd.ntmps64
  go_wp2_with (fail)
  go_ret
  exact ⟨rfl, (Below.refl _ _).alloc (Nat.le_refl _) _⟩

set_option maxRecDepth 100000 in
set_option maxHeartbeats 1000000 in
theorem in_i8 (k : ByteArray) (hk : Kd.of k.toList = (.int .i8)) (n u : Int) (f : Nat) (s : ByteArray) (h : IntKind.i8.wrap n = n) (w : World) :
    Calls Tryd.prog 64 #[.agg #[.string k, .int .i64 n, .int .u64 u, .float .f64 f, .string s]] w fun e w' => e = .returned (.iface 199 (.int .i8 n)) ∧ Below w.heap.size w w' := by
  have hl := Kd.of_lit _ hk (by simp)
  clear hk
  simp only [Kd.lit] at hl
  go_enter Tryd.func64, Tryd.ntmps64
  go_wp2_with (fail)
  go_ret
  exact ⟨rfl, (Below.refl _ _).alloc (Nat.le_refl _) _⟩

set_option maxRecDepth 100000 in
set_option maxHeartbeats 1000000 in
theorem in_i16 (k : ByteArray) (hk : Kd.of k.toList = (.int .i16)) (n u : Int) (f : Nat) (s : ByteArray) (h : IntKind.i16.wrap n = n) (w : World) :
    Calls Tryd.prog 64 #[.agg #[.string k, .int .i64 n, .int .u64 u, .float .f64 f, .string s]] w fun e w' => e = .returned (.iface 200 (.int .i16 n)) ∧ Below w.heap.size w w' := by
  have hl := Kd.of_lit _ hk (by simp)
  clear hk
  simp only [Kd.lit] at hl
  go_enter Tryd.func64, Tryd.ntmps64
  go_wp2_with (fail)
  go_ret
  exact ⟨rfl, (Below.refl _ _).alloc (Nat.le_refl _) _⟩

set_option maxRecDepth 100000 in
set_option maxHeartbeats 1000000 in
theorem in_i32 (k : ByteArray) (hk : Kd.of k.toList = (.int .i32)) (n u : Int) (f : Nat) (s : ByteArray) (h : IntKind.i32.wrap n = n) (w : World) :
    Calls Tryd.prog 64 #[.agg #[.string k, .int .i64 n, .int .u64 u, .float .f64 f, .string s]] w fun e w' => e = .returned (.iface 21 (.int .i32 n)) ∧ Below w.heap.size w w' := by
  have hl := Kd.of_lit _ hk (by simp)
  clear hk
  simp only [Kd.lit] at hl
  go_enter Tryd.func64, Tryd.ntmps64
  go_wp2_with (fail)
  go_ret
  exact ⟨rfl, (Below.refl _ _).alloc (Nat.le_refl _) _⟩

set_option maxRecDepth 100000 in
set_option maxHeartbeats 1000000 in
theorem in_i64 (k : ByteArray) (hk : Kd.of k.toList = (.int .i64)) (n u : Int) (f : Nat) (s : ByteArray) (w : World) :
    Calls Tryd.prog 64 #[.agg #[.string k, .int .i64 n, .int .u64 u, .float .f64 f, .string s]] w fun e w' => e = .returned (.iface 2 (.int .i64 n)) ∧ Below w.heap.size w w' := by
  have hl := Kd.of_lit _ hk (by simp)
  clear hk
  simp only [Kd.lit] at hl
  go_enter Tryd.func64, Tryd.ntmps64
  go_wp2_with (fail)
  go_ret
  exact ⟨rfl, (Below.refl _ _).alloc (Nat.le_refl _) _⟩

set_option maxRecDepth 100000 in
set_option maxHeartbeats 1000000 in
theorem in_u8 (k : ByteArray) (hk : Kd.of k.toList = (.int .u8)) (n u : Int) (f : Nat) (s : ByteArray) (h : IntKind.u8.wrap u = u) (w : World) :
    Calls Tryd.prog 64 #[.agg #[.string k, .int .i64 n, .int .u64 u, .float .f64 f, .string s]] w fun e w' => e = .returned (.iface 5 (.int .u8 u)) ∧ Below w.heap.size w w' := by
  have hl := Kd.of_lit _ hk (by simp)
  clear hk
  simp only [Kd.lit] at hl
  go_enter Tryd.func64, Tryd.ntmps64
  go_wp2_with (fail)
  go_ret
  exact ⟨rfl, (Below.refl _ _).alloc (Nat.le_refl _) _⟩

set_option maxRecDepth 100000 in
set_option maxHeartbeats 1000000 in
theorem in_u16 (k : ByteArray) (hk : Kd.of k.toList = (.int .u16)) (n u : Int) (f : Nat) (s : ByteArray) (h : IntKind.u16.wrap u = u) (w : World) :
    Calls Tryd.prog 64 #[.agg #[.string k, .int .i64 n, .int .u64 u, .float .f64 f, .string s]] w fun e w' => e = .returned (.iface 201 (.int .u16 u)) ∧ Below w.heap.size w w' := by
  have hl := Kd.of_lit _ hk (by simp)
  clear hk
  simp only [Kd.lit] at hl
  go_enter Tryd.func64, Tryd.ntmps64
  go_wp2_with (fail)
  go_ret
  exact ⟨rfl, (Below.refl _ _).alloc (Nat.le_refl _) _⟩

set_option maxRecDepth 100000 in
set_option maxHeartbeats 1000000 in
theorem in_u32 (k : ByteArray) (hk : Kd.of k.toList = (.int .u32)) (n u : Int) (f : Nat) (s : ByteArray) (h : IntKind.u32.wrap u = u) (w : World) :
    Calls Tryd.prog 64 #[.agg #[.string k, .int .i64 n, .int .u64 u, .float .f64 f, .string s]] w fun e w' => e = .returned (.iface 156 (.int .u32 u)) ∧ Below w.heap.size w w' := by
  have hl := Kd.of_lit _ hk (by simp)
  clear hk
  simp only [Kd.lit] at hl
  go_enter Tryd.func64, Tryd.ntmps64
  go_wp2_with (fail)
  go_ret
  exact ⟨rfl, (Below.refl _ _).alloc (Nat.le_refl _) _⟩

set_option maxRecDepth 100000 in
set_option maxHeartbeats 1000000 in
theorem in_u64 (k : ByteArray) (hk : Kd.of k.toList = (.int .u64)) (n u : Int) (f : Nat) (s : ByteArray) (w : World) :
    Calls Tryd.prog 64 #[.agg #[.string k, .int .i64 n, .int .u64 u, .float .f64 f, .string s]] w fun e w' => e = .returned (.iface 55 (.int .u64 u)) ∧ Below w.heap.size w w' := by
  have hl := Kd.of_lit _ hk (by simp)
  clear hk
  simp only [Kd.lit] at hl
  go_enter Tryd.func64, Tryd.ntmps64
  go_wp2_with (fail)
  go_ret
  exact ⟨rfl, (Below.refl _ _).alloc (Nat.le_refl _) _⟩

set_option maxRecDepth 100000 in
set_option maxHeartbeats 1000000 in
theorem in_f64 (k : ByteArray) (hk : Kd.of k.toList = .f64) (n u : Int) (f : Nat) (s : ByteArray) (w : World) :
    Calls Tryd.prog 64 #[.agg #[.string k, .int .i64 n, .int .u64 u, .float .f64 f, .string s]] w fun e w' => e = .returned (.iface 56 (.float .f64 f)) ∧ Below w.heap.size w w' := by
  have hl := Kd.of_lit _ hk (by simp)
  clear hk
  simp only [Kd.lit] at hl
  go_enter Tryd.func64, Tryd.ntmps64
  go_wp2_with (fail)
  go_ret
  exact ⟨rfl, (Below.refl _ _).alloc (Nat.le_refl _) _⟩

set_option maxRecDepth 100000 in
set_option maxHeartbeats 1000000 in
theorem in_str (k : ByteArray) (hk : Kd.of k.toList = .str) (n u : Int) (f : Nat) (s : ByteArray) (w : World) :
    Calls Tryd.prog 64 #[.agg #[.string k, .int .i64 n, .int .u64 u, .float .f64 f, .string s]] w fun e w' => e = .returned (.iface 9 (.string s)) ∧ Below w.heap.size w w' := by
  have hl := Kd.of_lit _ hk (by simp)
  clear hk
  simp only [Kd.lit] at hl
  go_enter Tryd.func64, Tryd.ntmps64
  go_wp2_with (fail)
  go_ret
  exact ⟨rfl, (Below.refl _ _).alloc (Nat.le_refl _) _⟩

set_option maxRecDepth 100000 in
set_option maxHeartbeats 1000000 in
theorem in_iInt (k : ByteArray) (hk : Kd.of k.toList = .iInt) (n u : Int) (f : Nat) (s : ByteArray) (w : World) :
    Calls Tryd.prog 64 #[.agg #[.string k, .int .i64 n, .int .u64 u, .float .f64 f, .string s]] w fun e w' => e = .returned (.iface 249 (.int .i64 n)) ∧ Below w.heap.size w w' := by
  have hl := Kd.of_lit _ hk (by simp)
  clear hk
  simp only [Kd.lit] at hl
  go_enter Tryd.func64, Tryd.ntmps64
  go_wp2_with go_in
  go_ret
  exact ⟨rfl, (Below.refl _ _).alloc (Nat.le_refl _) _⟩

set_option maxRecDepth 100000 in
set_option maxHeartbeats 1000000 in
theorem in_iRune (k : ByteArray) (hk : Kd.of k.toList = .iRune) (n u : Int) (f : Nat) (s : ByteArray) (h : IntKind.i32.wrap n = n) (w : World) :
    Calls Tryd.prog 64 #[.agg #[.string k, .int .i64 n, .int .u64 u, .float .f64 f, .string s]] w fun e w' => e = .returned (.iface 250 (.int .i32 n)) ∧ Below w.heap.size w w' := by
  have hl := Kd.of_lit _ hk (by simp)
  clear hk
  simp only [Kd.lit] at hl
  go_enter Tryd.func64, Tryd.ntmps64
  go_wp2_with go_in
  go_ret
  exact ⟨rfl, (Below.refl _ _).alloc (Nat.le_refl _) _⟩

set_option maxRecDepth 100000 in
set_option maxHeartbeats 1000000 in
theorem in_iUint (k : ByteArray) (hk : Kd.of k.toList = .iUint) (n u : Int) (f : Nat) (s : ByteArray) (w : World) :
    Calls Tryd.prog 64 #[.agg #[.string k, .int .i64 n, .int .u64 u, .float .f64 f, .string s]] w fun e w' => e = .returned (.iface 251 (.int .u64 u)) ∧ Below w.heap.size w w' := by
  have hl := Kd.of_lit _ hk (by simp)
  clear hk
  simp only [Kd.lit] at hl
  go_enter Tryd.func64, Tryd.ntmps64
  go_wp2_with go_in
  go_ret
  exact ⟨rfl, (Below.refl _ _).alloc (Nat.le_refl _) _⟩

set_option maxRecDepth 100000 in
set_option maxHeartbeats 1000000 in
theorem in_iFloat (k : ByteArray) (hk : Kd.of k.toList = .iFloat) (n u : Int) (f : Nat) (s : ByteArray) (w : World) :
    Calls Tryd.prog 64 #[.agg #[.string k, .int .i64 n, .int .u64 u, .float .f64 f, .string s]] w fun e w' => e = .returned (.iface 252 (.float .f64 f)) ∧ Below w.heap.size w w' := by
  have hl := Kd.of_lit _ hk (by simp)
  clear hk
  simp only [Kd.lit] at hl
  go_enter Tryd.func64, Tryd.ntmps64
  go_wp2_with go_in
  go_ret
  exact ⟨rfl, (Below.refl _ _).alloc (Nat.le_refl _) _⟩

set_option maxRecDepth 100000 in
set_option maxHeartbeats 1000000 in
theorem in_f32 (k : ByteArray) (hk : Kd.of k.toList = .f32) (n u : Int) (f : Nat) (s : ByteArray) (h : ((Ieee.single.read (Flt.down f)).isInfinity && !(Ieee.double.read f).isInfinity) = false) (h3 : (Ieee.double.read f).isNaN = false) (w : World) :
    Calls Tryd.prog 64 #[.agg #[.string k, .int .i64 n, .int .u64 u, .float .f64 f, .string s]] w fun e w' => e = .returned (.iface 121 (.float .f32 (Flt.down f))) ∧ Below w.heap.size w w' := by
  have hl := Kd.of_lit _ hk (by simp)
  clear hk
  simp only [Kd.lit] at hl
  have c1 := fun W => run_narrow f h h3 W
  clear h h3
  go_enter Tryd.func64, Tryd.ntmps64
  go_wp2
  go_ret
  exact ⟨rfl, (Below.refl _ _).alloc (Nat.le_refl _) _⟩

set_option maxRecDepth 100000 in
set_option maxHeartbeats 1000000 in
theorem in_f32_nan (k : ByteArray) (hk : Kd.of k.toList = .f32) (n u : Int) (f : Nat) (s : ByteArray) (h3 : (Ieee.double.read f).isNaN = true) (w : World) :
    Calls Tryd.prog 64 #[.agg #[.string k, .int .i64 n, .int .u64 u, .float .f64 f, .string s]] w fun e w' => ∃ W, e = .returned (.iface 121 (.float .f32 (nan32 W f))) ∧ Below w.heap.size w w' := by
  have hl := Kd.of_lit _ hk (by simp)
  clear hk
  simp only [Kd.lit] at hl
  have c1 := fun W => run_nan32 f h3 W
  clear h3
  go_enter Tryd.func64, Tryd.ntmps64
  go_wp2
  go_ret
  exact ⟨_, rfl, ((Below.refl _ _).alloc (Nat.le_refl _) _).drew⟩

theorem cell_second (w : World) (o : Obj) (C : Array Value) (t : TypeId) (fr : Nat × Nat) (j : Nat) : ((w.alloc o).alloc (.cells C t fr)).cell? ⟨w.heap.size + 1, j, none⟩ = C[j]? := by
  have h := World.cell?_alloc_mark (w.alloc o) C t fr j
  rwa [show (w.alloc o).heap.size = w.heap.size + 1 from by simp] at h

def BlobPost (s : ByteArray) (w : World) (e : Ending) (w' : World) : Prop :=
  ∃ b cap, e = .returned (.iface 202 (.slice (some ⟨b, 0, none⟩) s.size cap)) ∧ w.heap.size ≤ b ∧ b < w'.heap.size ∧ Below w.heap.size w w' ∧ ∀ j, w'.cell? ⟨b, j, none⟩ = (bytesRow s cap)[j]?

set_option maxRecDepth 100000 in
set_option maxHeartbeats 1000000 in
theorem in_blob (k : ByteArray) (hk : Kd.of k.toList = .blob) (n u : Int) (f : Nat) (s : ByteArray) (w : World) :
    Calls Tryd.prog 64 #[.agg #[.string k, .int .i64 n, .int .u64 u, .float .f64 f, .string s]] w (BlobPost s w) := by
  have hl := Kd.of_lit _ hk (by simp)
  clear hk
  simp only [Kd.lit] at hl
  have c1 := fun W => run_bytes_of_string W 9 202 5 s Tryd.underlying9 Tryd.underlying202 Tryd.underlying5
  go_enter Tryd.func64, Tryd.ntmps64
  go_wp2
  go_ret
  refine ⟨_, _, rfl, ?_, ?_, ?_, ?_⟩
  · simp
  · simp
  · exact (((Below.refl _ _).alloc (Nat.le_refl _) _).alloc (by simp) _).drew
  · intro j
    rw [World.cell?_drew]
    exact cell_second w _ _ _ _ j

theorem wrap_i {k : IntKind} {n : Int} (h1 : k.min ≤ n) (h2 : n ≤ k.max) : k.wrap n = n := by
  cases k <;> simp only [IntKind.min, IntKind.max, IntKind.wrap, IntKind.bits, IntKind.signed, if_true, if_false, Bool.true_and, Bool.false_and, Bool.false_eq_true, decide_eq_true_eq, ge_iff_le, Nat.reduceSub, Int.reducePow] at * <;> (try split) <;> omega

/-- The value that comes in is what the program has for it. -/
theorem in_any (k : ByteArray) (n u : Int) (f : Nat) (s : ByteArray) (hr : Rng n u f) (hv : validB (Kd.of k.toList) n u f s = true) (w : World) :
    Calls Tryd.prog 64 #[.agg #[.string k, .int .i64 n, .int .u64 u, .float .f64 f, .string s]] w (InPost (Kd.of k.toList) n u f s w) := by
  obtain ⟨r1, r2, r3, r4, r5⟩ := hr
  cases hk : Kd.of k.toList with
  | other => rw [hk] at hv; simp [validB] at hv
  | null => exact (in_null k hk n u f s w).mono fun e w' ⟨he, hb⟩ => ⟨_, .null, he, rfl, hb, by simp [SVof, toSV]⟩
  | bool => exact (in_bool k hk n u f s w).mono fun e w' ⟨he, hb⟩ => ⟨_, .bool (n != 0), he, rfl, hb, by simp [SVof, toSV]⟩
  | int q =>
    rw [hk] at hv
    cases q <;> simp only [validB, Bool.and_eq_true, beq_iff_eq] at hv
    case i8 => exact (in_i8 k hk n u f s (wrap_i (by simp [IntKind.min, IntKind.signed, IntKind.bits]; omega) (by simp [IntKind.max, IntKind.signed, IntKind.bits]; omega)) w).mono fun e w' ⟨he, hb⟩ => ⟨_, .int .i8 n, he, rfl, hb, by simp [SVof, toSV, IntKind.signed]⟩
    case i16 => exact (in_i16 k hk n u f s (wrap_i (by simp [IntKind.min, IntKind.signed, IntKind.bits]; omega) (by simp [IntKind.max, IntKind.signed, IntKind.bits]; omega)) w).mono fun e w' ⟨he, hb⟩ => ⟨_, .int .i16 n, he, rfl, hb, by simp [SVof, toSV, IntKind.signed]⟩
    case i32 => exact (in_i32 k hk n u f s (wrap_i (by simp [IntKind.min, IntKind.signed, IntKind.bits]; omega) (by simp [IntKind.max, IntKind.signed, IntKind.bits]; omega)) w).mono fun e w' ⟨he, hb⟩ => ⟨_, .int .i32 n, he, rfl, hb, by simp [SVof, toSV, IntKind.signed]⟩
    case i64 => exact (in_i64 k hk n u f s w).mono fun e w' ⟨he, hb⟩ => ⟨_, .int .i64 n, he, rfl, hb, by simp [SVof, toSV, IntKind.signed]⟩
    case u8 => exact (in_u8 k hk n u f s (wrap_i (by simp [IntKind.min, IntKind.signed]; omega) (by simp [IntKind.max, IntKind.signed, IntKind.bits]; omega)) w).mono fun e w' ⟨he, hb⟩ => ⟨_, .int .u8 u, he, rfl, hb, by simp [SVof, toSV, IntKind.signed]⟩
    case u16 => exact (in_u16 k hk n u f s (wrap_i (by simp [IntKind.min, IntKind.signed]; omega) (by simp [IntKind.max, IntKind.signed, IntKind.bits]; omega)) w).mono fun e w' ⟨he, hb⟩ => ⟨_, .int .u16 u, he, rfl, hb, by simp [SVof, toSV, IntKind.signed]⟩
    case u32 => exact (in_u32 k hk n u f s (wrap_i (by simp [IntKind.min, IntKind.signed]; omega) (by simp [IntKind.max, IntKind.signed, IntKind.bits]; omega)) w).mono fun e w' ⟨he, hb⟩ => ⟨_, .int .u32 u, he, rfl, hb, by simp [SVof, toSV, IntKind.signed]⟩
    case u64 => exact (in_u64 k hk n u f s w).mono fun e w' ⟨he, hb⟩ => ⟨_, .int .u64 u, he, rfl, hb, by simp [SVof, toSV, IntKind.signed]⟩
  | f32 =>
    rw [hk] at hv
    simp only [validB, Bool.and_eq_true] at hv
    obtain ⟨_, h4⟩ := hv
    unfold single64 at h4
    cases hn : (Ieee.double.read f).isNaN with
    | true =>
      refine (in_f32_nan k hk n u f s hn w).mono fun e w' ⟨W, he, hb⟩ => ⟨_, .f32 (nan32 W f), he, rfl, hb, ?_⟩
      unfold SVof
      rw [if_pos ⟨rfl, by rw [numB_nan, hn]; rfl⟩]
      exact ⟨_, rfl, isNaN_nan32 _ _, nan32_lt _ _⟩
    | false =>
      rw [numB_nan, hn] at h4
      simp only [Bool.not_false, Bool.not_true, Bool.false_or, Bool.and_eq_true, Bool.not_eq_true'] at h4
      refine (in_f32 k hk n u f s h4.2 hn w).mono fun e w' ⟨he, hb⟩ => ⟨_, .f32 (Flt.down f), he, rfl, hb, ?_⟩
      unfold SVof
      rw [if_neg (fun h => by have := h.2; rw [numB_nan, hn] at this; cases this)]
      rfl
  | f64 => exact (in_f64 k hk n u f s w).mono fun e w' ⟨he, hb⟩ => ⟨_, .f64 f, he, rfl, hb, by simp [SVof, toSV]⟩
  | str => exact (in_str k hk n u f s w).mono fun e w' ⟨he, hb⟩ => ⟨_, .str s, he, rfl, hb, by simp [SVof, toSV]⟩
  | blob =>
    refine (in_blob k hk n u f s w).mono fun e w' ⟨b, cap, he, _, hlt, hb, hc⟩ => ⟨_, .blob s.data.toList, he, ?_, hb, by simp [SVof, toSV]⟩
    refine ⟨⟨b, 0, none⟩, cap, rfl, hlt, fun j hj => ?_⟩
    have ha : Addr.add ⟨b, 0, none⟩ j = ⟨b, j, none⟩ := by
      unfold Addr.add
      split
      · rename_i h0; subst h0; rfl
      · simp
    rw [ha, hc j]
    unfold bytesRow
    have hj' : j < s.data.size := by simpa using hj
    rw [Array.getElem?_append_left (by simpa using hj')]
    simp
    exact ⟨s.data[j], Array.getElem?_eq_getElem hj', rfl⟩
  | iInt => exact (in_iInt k hk n u f s w).mono fun e w' ⟨he, hb⟩ => ⟨_, .iInt n, he, rfl, hb, by simp [SVof, toSV]⟩
  | iRune =>
    rw [hk] at hv
    simp only [validB, Bool.and_eq_true, beq_iff_eq] at hv
    exact (in_iRune k hk n u f s (wrap_i (by simp [IntKind.min, IntKind.signed, IntKind.bits]; omega) (by simp [IntKind.max, IntKind.signed, IntKind.bits]; omega)) w).mono fun e w' ⟨he, hb⟩ => ⟨_, .iRune n, he, rfl, hb, by simp [SVof, toSV]⟩
  | iUint => exact (in_iUint k hk n u f s w).mono fun e w' ⟨he, hb⟩ => ⟨_, .iUint u, he, rfl, hb, by simp [SVof, toSV]⟩
  | iFloat => exact (in_iFloat k hk n u f s w).mono fun e w' ⟨he, hb⟩ => ⟨_, .iFloat f, he, rfl, hb, by simp [SVof, toSV]⟩

end Go.Proofs.YtffgkocokkhahaaDoor

/- impl.ins: a list of values brought into the database. -/
namespace Go.Proofs.YtffgkocokkhahaaDoor
open Go.RowKit

/-- y is what a value is as data. -/
def VV.is (x : VV) (y : SV) : Prop := SVof (Kd.of x.k.toList) x.n x.u x.f x.s y
def VV.good (x : VV) : Prop := Rng x.n x.u x.f ∧ validB (Kd.of x.k.toList) x.n x.u x.f x.s = true

/-- Where a value's memory begins. -/
def From (B : Nat) (v : Value) : Prop := ∀ t a n c, v = .iface t (.slice (some a) n c) → B ≤ a.block

def In2Post (x : VV) (w : World) (e : Ending) (w' : World) : Prop :=
  ∃ v y, e = .returned v ∧ Rep w' y v ∧ Below w.heap.size w w' ∧ x.is y ∧ From w.heap.size v

theorem in2_any (x : VV) (hg : x.good) (w : World) : Calls Tryd.prog 64 #[.agg #[.string x.k, .int .i64 x.n, .int .u64 x.u, .float .f64 x.f, .string x.s]] w (In2Post x w) := by
  by_cases hk : Kd.of x.k.toList = .blob
  · refine (in_blob x.k hk x.n x.u x.f x.s w).mono fun e w' ⟨b, cap, he, hlo, hlt, hb, hc⟩ => ⟨_, .blob x.s.data.toList, he, ?_, hb, by simp [VV.is, hk, SVof, toSV], ?_⟩
    · refine ⟨⟨b, 0, none⟩, cap, rfl, hlt, fun j hj => ?_⟩
      have ha : Addr.add ⟨b, 0, none⟩ j = ⟨b, j, none⟩ := by
        unfold Addr.add
        split
        · rename_i h0; subst h0; rfl
        · simp
      rw [ha, hc j]
      unfold bytesRow
      have hj' : j < x.s.data.size := by simpa using hj
      rw [Array.getElem?_append_left (by simpa using hj')]
      simp
      exact ⟨x.s.data[j], Array.getElem?_eq_getElem hj', rfl⟩
    · intro t a n c h
      injection h with _ h
      injection h with h
      injection h with h
      subst h
      exact hlo
  · refine (in_any x.k x.n x.u x.f x.s hg.1 hg.2 w).mono fun e w' ⟨v, y, he, hrep, hb, hsv⟩ => ⟨v, y, he, hrep, hb, hsv, ?_⟩
    intro t a n c h
    subst h
    exfalso
    have hy : ∃ l, y = .blob l := by
      cases y with
      | blob l => exact ⟨l, rfl⟩
      | _ => exact absurd hrep (by simp [Rep])
    obtain ⟨l, rfl⟩ := hy
    unfold SVof at hsv
    split at hsv
    · obtain ⟨z, h, _⟩ := hsv; cases h
    · revert hk hsv
      cases Kd.of x.k.toList <;> simp [toSV]

theorem rep_lt {w : World} {y : SV} {v : Value} (h : Rep w y v) {t : TypeId} {a : Addr} {n c : Nat} (hv : v = .iface t (.slice (some a) n c)) : a.block < w.heap.size := by
  subst hv
  cases y with
  | blob l =>
    obtain ⟨b, cap, he, hlt, _⟩ := h
    injection he with _ he
    injection he with he
    injection he with he
    subst he
    exact hlt
  | _ => exact absurd h (by simp [Rep])

theorem Rep.grown {w w' : World} {y : SV} {v : Value} {row : Option Nat} (h : Rep w y v) (hg : w.grownBy w' row) (hap : ∀ t a n c, v = .iface t (.slice (some a) n c) → some a.block ≠ row) : Rep w' y v := by
  cases y with
  | blob l =>
    obtain ⟨a, cap, hv, hlt, hc⟩ := h
    have hne := hap _ _ _ _ hv
    refine ⟨a, cap, hv, Nat.lt_of_lt_of_le hlt hg.size, fun j hj => ?_⟩
    exact (World.cell?_of_block (a := a.add j) (by rw [block_add]; exact hg.block _ hlt hne)).trans (hc j hj)
  | _ => exact h

/-- The first k values as the program has them. -/
def RepK (w : World) (l : List VV) (k : Nat) (vs : List Value) : Prop :=
  vs.length = k ∧ ∀ (j : Nat) (x : VV) (v : Value), l[j]? = some x → vs[j]? = some v → ∃ y, x.is y ∧ Rep w y v
def Apart (vs : List Value) (row : Option Nat) : Prop := ∀ (j : Nat) (v : Value), vs[j]? = some v → ∀ (t : TypeId) (a : Addr) (n c : Nat), v = .iface t (.slice (some a) n c) → some a.block ≠ row

theorem RepK.below {w w' : World} {l : List VV} {k : Nat} {vs : List Value} (h : RepK w l k vs) (hb : Below w.heap.size w w') : RepK w' l k vs :=
  ⟨h.1, fun j x v hx hv => by obtain ⟨y, h1, h2⟩ := h.2 j x v hx hv; exact ⟨y, h1, h2.below hb⟩⟩

theorem ins_step {B E : Nat} {w wr w1 w2 : World} {l : List VV} {k : Nat} {vs : List Value} {r v v' : Value} {x : VV} {y : SV} {o o2 : Obj}
    (hown : wr.ownsRow B E 1 r k vs) (hB : B ≤ wr.heap.size) (hrep : RepK wr l k vs) (hap : Apart vs r.ownBlock) (hl : k < l.length) (hx : l[k]? = some x)
    (hb1 : Below (wr.alloc o).heap.size (wr.alloc o) w1) (hrv : Rep w1 y v) (hsv : x.is y) (hnew : From (wr.alloc o).heap.size v)
    (hg2 : (w1.alloc o2).grownBy w2 r.ownBlock) (hat : v'.ownBlock = r.ownBlock ∨ v'.ownBlock = some (w1.alloc o2).heap.size) (hbw : Below B w wr) :
    RepK w2 l (k + 1) (vs ++ [v]) ∧ Apart (vs ++ [v]) v'.ownBlock ∧ Below B w w2 := by
  have hbA : Below wr.heap.size wr (w1.alloc o2) := ((((Below.refl _ _).alloc (Nat.le_refl _) o).trans (hb1.mono (by simp))).alloc (by have := hb1.size; simp at this; omega) o2)
  have hown0 : ∀ g, r.ownBlock = some g → B ≤ g ∧ g < wr.heap.size := hown.lt
  have hvlt : ∀ t a n c, v = .iface t (.slice (some a) n c) → some a.block ≠ r.ownBlock := by
    intro t a n c hv he
    have h1 := hnew t a n c hv
    have h2 := (hown0 _ he.symm).2
    simp at h1
    omega
  have hold : ∀ (j : Nat) (x : VV) (v : Value), l[j]? = some x → vs[j]? = some v → ∃ y, x.is y ∧ Rep (w1.alloc o2) y v := fun j x v hx hv => by
    obtain ⟨y, h1, h2⟩ := hrep.2 j x v hx hv
    exact ⟨y, h1, h2.below hbA⟩
  have hnewR : Rep (w1.alloc o2) y v := hrv.below ((Below.refl _ _).alloc (Nat.le_refl _) _)
  refine ⟨⟨by rw [List.length_append, hrep.1]; rfl, fun j z u hz hu => ?_⟩, fun j u hu t a n c hv => ?_, ?_⟩
  · rcases Nat.lt_or_ge j k with hj | hj
    · rw [List.getElem?_append_left (by rw [hrep.1]; exact hj)] at hu
      obtain ⟨y', h1, h2⟩ := hold j z u hz hu
      exact ⟨y', h1, h2.grown hg2 (hap j u hu)⟩
    · rw [List.getElem?_append_right (by rw [hrep.1]; exact hj), hrep.1] at hu
      have hjk : j = k := by
        rcases Nat.eq_or_lt_of_le hj with h | h
        · exact h.symm
        · rw [List.getElem?_eq_none (by simp; omega)] at hu; cases hu
      subst hjk
      rw [Nat.sub_self] at hu
      obtain rfl : u = v := (Option.some.inj hu).symm
      obtain rfl : z = x := Option.some.inj (hz.symm.trans hx)
      exact ⟨y, hsv, hnewR.grown hg2 hvlt⟩
  · have hlt : a.block < (w1.alloc o2).heap.size ∧ some a.block ≠ r.ownBlock := by
      rcases Nat.lt_or_ge j k with hj | hj
      · rw [List.getElem?_append_left (by rw [hrep.1]; exact hj)] at hu
        obtain ⟨y', _, h2⟩ := hold j l[j] u (List.getElem?_eq_getElem (by omega)) hu
        exact ⟨rep_lt h2 hv, hap j u hu t a n c hv⟩
      · rw [List.getElem?_append_right (by rw [hrep.1]; exact hj), hrep.1] at hu
        have hjk : j - k = 0 := by
          rcases Nat.eq_zero_or_pos (j - k) with h | h
          · exact h
          · rw [List.getElem?_eq_none (by simp; omega)] at hu; cases hu
        rw [hjk] at hu
        obtain rfl : u = v := (Option.some.inj hu).symm
        exact ⟨rep_lt hnewR hv, hvlt t a n c hv⟩
    rcases hat with h | h
    · rw [h]; exact hlt.2
    · rw [h]
      intro he
      have := Option.some.inj he
      omega
  · exact (hbw.trans (hbA.mono hB)).grown hg2 (by have := hbA.size; omega) (fun g hg => (hown0 g hg).1)

def InsPost (l : List VV) (w : World) (e : Ending) (w' : World) : Prop :=
  ∃ A c vs, e = .returned (.slice A l.length c) ∧ Reads w' w'.heap.size 1 A l.length vs ∧ RepK w' l l.length vs ∧ Below w.heap.size w w'

theorem info_iface : (Tryd.prog.info? 20).map (fun i => (i.zero, i.size, i.bytes)) = some (some .nilIface, 1, 16) := by kernel_rfl

theorem own_form {w : World} {base : Nat} {e : TypeId} {size : Nat} {v : Value} {n : Nat} {xs : List Value} (h : w.ownsRow base e size v n xs) : ∃ A c, v = .slice A n c := by
  rcases h.2 with ⟨rfl, rfl⟩ | ⟨g, cap, cur, rfl, _⟩
  · exact ⟨_, _, rfl⟩
  · exact ⟨_, _, rfl⟩

theorem rep_form {w : World} {y : SV} {v : Value} (h : Rep w y v) : v = .nilIface ∨ ∃ t u, v = .iface t u := by
  cases y with
  | blob l => obtain ⟨a, cap, rfl, _⟩ := h; exact .inr ⟨_, _, rfl⟩
  | null => exact .inl h
  | _ => exact .inr ⟨_, _, h⟩

theorem rep_one {w : World} {y : SV} {v : Value} (h : Rep w y v) : v.oneCell' = true := by
  cases y with
  | blob l => obtain ⟨a, cap, rfl, _⟩ := h; rfl
  | _ => (have h' : v = _ := h); rw [h']; rfl

end Go.Proofs.YtffgkocokkhahaaDoor

/- The walk of impl.ins. -/
namespace Go.Proofs.YtffgkocokkhahaaDoor
open Go.RowKit

set_option maxHeartbeats 1000000 in
theorem ins_any (l : List VV) (A : Option Addr) (c : Nat) (w : World) (hl : LAt w A l) (hgood : ∀ (j : Nat) (x : VV), l[j]? = some x → x.good) (hm : l.length ≤ 2147483647) :
    Calls Tryd.prog 29 #[.slice A l.length c] w (InsPost l w) := by
  obtain ⟨i0, hi, hz0, hz1, hz2⟩ := info_parts info_iface
  obtain ⟨len, hlen⟩ : ∃ len, len = l.length := ⟨_, rfl⟩
  have HL := Lib.hid hl
  have HN := Lib.hid hlen
  have HI := Lib.hid (fun (x : VV) (hg : x.good) w => in2_any x hg w)
  have HG := Lib.hid hgood
  unfold InsPost
  rw [← hlen] at hm ⊢
  clear hl hlen hgood
  go_enter Tryd.func29, Tryd.ntmps29
  go_wp2
  go_loopw [3, 8] (fun r i wr => ∃ (k : Nat) (vs : List Value), k ≤ len ∧ i = .int .i64 k ∧ wr.ownsRow w.heap.size 20 1 r k vs ∧ RepK wr l k vs ∧ Apart vs r.ownBlock ∧ Below w.heap.size w wr) (fun _ i _ => len - (intOf i).toNat)
  case atStart => exact ⟨0, [], by omega, rfl, World.ownsRow_nil _ _ _ _, ⟨rfl, fun j x v _ h => by simp at h⟩, fun j v h => by simp at h, Below.refl _ _⟩
  case round =>
    obtain ⟨k, vs, hk, rfl, hown, hrep, hap, hb⟩ := hrel
    have HO := Lib.hid hown
    have HR := Lib.hid hrep
    have HP := Lib.hid hap
    have HB := Lib.hid hb
    have hs := hb.size
    clear hown hrep hap
    by_cases hlt : k < len
    · have hlt2 : k < l.length := by rw [← HN.out]; exact hlt
      obtain ⟨x, hx'⟩ : ∃ x, l[k]? = some x := ⟨_, List.getElem?_eq_getElem hlt2⟩
      have HX := Lib.hid hx'
      have HX2 := Lib.hid (HI.out x (HG.out k x hx'))
      have HT := Lib.hid hlt2
      obtain ⟨ad, rfl, hbl, h0, h1, h2, h3, h4⟩ := (HL.out.below hb) k x hx'
      clear hx' hlt2 hb
      go_wp2_with (first
        | (go_at_call 64; refine (HX2.out _).mono ?_; rintro e w1 ⟨v, y, rfl, hrv, hb1, hsv, hnew⟩; have HV := Lib.hid hrv; have HS := Lib.hid hsv; have HW := Lib.hid hnew; have HB1 := Lib.hid hb1; clear hsv hnew hb1; rcases rep_form hrv with rfl | ⟨tv, uv, rfl⟩ <;> clear hrv)
        | (at_builtin
           refine wpList_append_any _ rfl (.tmp 12) (.tmp 15) _ rfl w.heap.size 20 i0 _ 1 16 Tryd.underlying77 hi hz0 hz1 hz2 rfl (by omega) u3 k vs rfl
             ((own_below (HO.out.alloc _) HB1.out).alloc _) (w1.heap.size + 1) (some ⟨w1.heap.size, 0, none⟩) 1 1 [_] rfl (reads_new _ _ _) (fun u hu => by simp at hu; subst hu; exact rep_one HV.out) (by simp only [maxLen]; omega) (by omega) (by have := HB1.out.size; simp at this ⊢; omega) ?_
           intro v2 w2 hown2 hg2 hat2
           have HO2 := Lib.hid hown2; have HG2 := Lib.hid hg2; have HA2 := Lib.hid hat2; clear hown2 hg2 hat2))
      all_goals
        have R := ins_step HO.out HB.out.size HR.out HP.out HT.out HX.out HB1.out HV.out HS.out HW.out HG2.out HA2.out HB.out
        exact ⟨⟨k + 1, _, by omega, by push_cast; rfl, HO2.out, R.1, R.2.1, R.2.2⟩, by simp [intOf]; omega⟩
    · have hke : k = len := by omega
      subst hke
      obtain ⟨A', c', rfl⟩ := own_form HO.out
      go_wp2
      go_ret
      exact ⟨A', c', vs, rfl, Reads.of_own HO.out, HR.out, HB.out⟩

end Go.Proofs.YtffgkocokkhahaaDoor
