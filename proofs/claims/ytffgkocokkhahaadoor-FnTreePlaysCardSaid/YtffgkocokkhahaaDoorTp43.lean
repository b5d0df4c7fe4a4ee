/-
  An argument of type impl.Value, opened to its five fields. || An argument of type []impl.Value opened to its values' fields. || An argument of type []impl.TreeDeed opened to its deeds' fields. || What the program's text lays into the end's own error, as a walk wants it; a world that has it.
-/
import Derived.Test.YtffgkocokkhahaaDoorTp02
import Derived.ProofKit
import Derived.OpenShut
import Derived.ShutString
import Derived.ChangeOld
import Derived.Below
import Derived.Laws.Cover2
import Derived.Deep.Slices
import Derived.Deep.Fields
import Derived.Test.YtffgkocokkhahaaDoorTp01
import Derived.ChangeSame
import Derived.Lib.SmallJoins
import Derived.Test.YtffgkocokkhahaaDoorTp41
import Derived.Test.YtffgkocokkhahaaDoorTp15
import Derived.LaidLaws
import Derived.Stop.LaidErr
import Derived.Stop.ErrReads

/- An argument of type impl.Value, opened to its five fields. -/
namespace Go.Proofs.YtffgkocokkhahaaDoor
open Go.ChangeShapes Go.WideShapes Go.ChangeAt Go.RowKit Go.Deep
set_option maxRecDepth 100000

theorem own : ownKnob Tryd.prog.godebug = none := by kernel_rfl
theorem laidOut : laidOutB Tryd.prog = true := by kernel_rfl
theorem cellsV : Tryd.prog.cellsOf 58 = 5 := by kernel_rfl
theorem cellsS : Tryd.prog.cellsOf 9 = 1 := by kernel_rfl
section
variable {H : Type} {enc : TypeId × Value → H} {P : Program} {w : World} {base : Nat} {spare : Nat → Bool} {held : Bool}

theorem trod_float {t : TypeId} {k : FloatKind} {fuel : Nat} {cs : List Value} {x : DataW H × List MemPlace} (ht : P.underlying t = some (.float k)) (h : DataW.trod enc P w base spare held fuel t cs = some x) :
    ∃ b, cs = [.float k b] ∧ (Lit.float k b).wf = true := by
  cases fuel with
  | zero => simp [DataW.trod] at h
  | succ n =>
    unfold DataW.trod at h
    rw [ht] at h
    split at h <;> simp_all

/-- The five fields of a value that came in. -/
structure IsVal (v : Value) (k : ByteArray) (n u : Int) (f : Nat) (s : ByteArray) : Prop where
  eq : v = .agg #[.string k, .int .i64 n, .int .u64 u, .float .f64 f, .string s]
  rng : Rng n u f
  kl : k.size ≤ maxLen
  sl : s.size ≤ maxLen

theorem isVal_of {c0 c1 c2 c3 c4 : Value} {y0 y1 y2 y3 y4 : DataW H × List MemPlace} {n0 n1 n2 n3 n4 : Nat}
    (h0 : DataW.trod enc Tryd.prog w base spare held n0 9 [c0] = some y0) (h1 : DataW.trod enc Tryd.prog w base spare held n1 2 [c1] = some y1)
    (h2 : DataW.trod enc Tryd.prog w base spare held n2 55 [c2] = some y2) (h3 : DataW.trod enc Tryd.prog w base spare held n3 56 [c3] = some y3)
    (h4 : DataW.trod enc Tryd.prog w base spare held n4 9 [c4] = some y4) : ∃ k n u f s, IsVal (.agg #[c0, c1, c2, c3, c4]) k n u f s := by
  obtain ⟨k, e0, _, hk⟩ := DataW.trod_string Tryd.underlying9 h0
  obtain ⟨n, e1, _, hn⟩ := DataW.trod_int Tryd.underlying2 h1
  obtain ⟨u, e2, _, hu⟩ := DataW.trod_int Tryd.underlying55 h2
  obtain ⟨f, e3, hf⟩ := trod_float Tryd.underlying56 h3
  obtain ⟨s, e4, _, hs⟩ := DataW.trod_string Tryd.underlying9 h4
  simp only [List.cons.injEq, and_true] at e0 e1 e2 e3 e4
  subst e0 e1 e2 e3 e4
  refine ⟨k, n, u, f, s, rfl, ?_, hk, hs⟩
  simp only [Lit.wf, Bool.and_eq_true, decide_eq_true_eq, IntKind.min, IntKind.max, IntKind.signed, IntKind.bits, if_true, Bool.false_eq_true, if_false, Nat.reduceSub, Int.reducePow, Int.reduceSub, Int.reduceNeg, Nat.reducePow] at hn hu hf
  exact ⟨hn.1, hn.2, hu.1, hu.2, hf⟩

end

end Go.Proofs.YtffgkocokkhahaaDoor

/- An argument of type []impl.Value opened to its values' fields. -/
namespace Go.Proofs.YtffgkocokkhahaaDoor
open Go.ChangeShapes Go.WideShapes Go.ChangeAt Go.RowKit Go.Deep
set_option maxRecDepth 100000

section
variable {H : Type} {enc : TypeId × Value → H} {P : Program} {w : World} {base : Nat} {spare : Nat → Bool} {held : Bool}
theorem open_slice_fields {t e : TypeId} {fs : Array Field} {fuel : Nat} {cs : List Value} {x : DataW H × List MemPlace} (ht : P.underlying t = some (.slice e)) (he : P.underlying e = some (.struct fs))
    (hone : oneCellFields P fs = true) (hC : P.cellsOf e = fs.size) (h : DataW.trod enc P w base spare held fuel t cs = some x) :
    (cs = [.slice none 0 0] ∧ x = (.nil, [])) ∨
    ∃ (a : Addr) (len cap m : Nat) (D : Nat → DataW H) (Pl : Nat → List MemPlace), cs = [.slice (some a) len cap] ∧ base ≤ a.block ∧ len ≤ cap ∧ cap ≤ maxLen ∧ m = (if spare a.block then cap else len) ∧
      x = (.slice ((List.range len).map D) ((List.range (m - len)).map fun j => D (len + j)), MemPlace.row a (m * fs.size) ++ (List.range m).flatMap Pl) ∧
      ∀ i, i < m → ∃ (ys : List (DataW H × List MemPlace)) (n : Nat), D i = .agg (ys.map (·.1)) ∧ Pl i = ys.flatMap (·.2) ∧ ys.length = fs.size ∧
        ∀ (j : Nat) (f : Field), fs[j]? = some f → ∃ (v : Value) (y : DataW H × List MemPlace), w.cell? (a.add (i * fs.size + j)) = some v ∧ ys[j]? = some y ∧ DataW.trod enc P w base spare held n f.type [v] = some y := by
  rcases open_slice ht h with h0 | ⟨a, len, cap, m, n, D, Pl, hcs, hb, hl, hm, hmm, hx, hi⟩
  · exact .inl h0
  · refine .inr ⟨a, len, cap, m, D, Pl, hcs, hb, hl, hm, hmm, by rw [hC] at hx; exact hx, fun i him => ?_⟩
    obtain ⟨cs', hc, ht'⟩ := hi i him
    rw [hC] at hc
    obtain ⟨ys, n', hn', hy, hlen, hyl, hf⟩ := DataW.trod_struct he ht'
    obtain ⟨_, hcl, hat⟩ := World.cells?_some hc
    simp only [Prod.mk.injEq] at hy
    refine ⟨ys, n', hy.1, hy.2, hyl, fun j f hj => ?_⟩
    obtain ⟨ho, hk⟩ := hone_of hone j f hj
    have hjl : j < fs.size := (Array.getElem?_eq_some_iff.1 hj).1
    have hcell := hat j hjl
    have hv : cs'[j]? = some (cs'[j]'(by omega)) := List.getElem?_eq_getElem (by omega)
    have h1 := hf j f hj
    rw [ho, hk] at h1
    have hone' : (cs'.drop j).take 1 = [cs'[j]'(by omega)] := by
      rw [List.drop_eq_getElem_cons (by omega)]
      rfl
    rw [hone'] at h1
    have hys : ys[j]? = some (ys[j]'(by omega)) := List.getElem?_eq_getElem (by omega)
    refine ⟨_, _, ?_, hys, h1.trans hys⟩
    rw [← Go.Deep.add_add, hcell, hv]
end

section
variable {H : Type} {enc : TypeId × Value → H} {w : World} {base : Nat} {held : Bool}

theorem cell_lt {w : World} {p : Addr} {v : Value} (h : w.cell? p = some v) : p.block < w.heap.size := by
  rcases Nat.lt_or_ge p.block w.heap.size with h' | h'
  · exact h'
  · unfold World.cell? at h
    rw [Array.getElem?_eq_none h'] at h
    cases h

theorem add_pos (a : Addr) (j : Nat) (h : j ≠ 0) : a.add j = ⟨a.block, a.off + j, none⟩ := by unfold Addr.add; rw [if_neg h]

instance : Inhabited VV := ⟨⟨⟨#[]⟩, 0, 0, 0, ⟨#[]⟩⟩⟩

theorem open_values {fuel : Nat} {cs : List Value} {x : DataW H × List MemPlace} (h : DataW.trod enc Tryd.prog w base (fun _ => true) held fuel 25 cs = some x) :
    ∃ (A : Option Addr) (l : List VV) (c : Nat), cs = [.slice A l.length c] ∧ LAt w A l ∧ (∀ (j : Nat) (x : VV), l[j]? = some x → Rng x.n x.u x.f) ∧ l.length ≤ maxLen := by
  rcases open_slice_fields Tryd.underlying25 Tryd.underlying58 (by kernel_rfl) cellsV h with ⟨rfl, _⟩ | ⟨a, len, cap, m, D, Pl, rfl, _, hl, hm, hmm, _, hel⟩
  · exact ⟨none, [], 0, rfl, fun i x h => by simp at h, fun i x h => by simp at h, by simp⟩
  · have hmm' : m = cap := hmm
    obtain ⟨V, hV⟩ := choose_lt (α := VV) (n := len) (p := fun i x => (Rng x.n x.u x.f) ∧ w.cell? (a.add (i * 5)) = some (.string x.k) ∧ w.cell? (a.add (i * 5 + 1)) = some (.int .i64 x.n) ∧ w.cell? (a.add (i * 5 + 2)) = some (.int .u64 x.u) ∧ w.cell? (a.add (i * 5 + 3)) = some (.float .f64 x.f) ∧ w.cell? (a.add (i * 5 + 4)) = some (.string x.s)) (fun i hi => by
      obtain ⟨ys, n, _, _, _, hf⟩ := hel i (by omega)
      obtain ⟨v0, y0, c0, _, t0⟩ := hf 0 _ rfl
      obtain ⟨v1, y1, c1, _, t1⟩ := hf 1 _ rfl
      obtain ⟨v2, y2, c2, _, t2⟩ := hf 2 _ rfl
      obtain ⟨v3, y3, c3, _, t3⟩ := hf 3 _ rfl
      obtain ⟨v4, y4, c4, _, t4⟩ := hf 4 _ rfl
      obtain ⟨k, n, u, f, s, he, hr, _, _⟩ := isVal_of t0 t1 t2 t3 t4
      simp only [Value.agg.injEq, Array.mk.injEq, List.cons.injEq, and_true] at he
      obtain ⟨rfl, rfl, rfl, rfl, rfl⟩ := he
      exact ⟨⟨k, n, u, f, s⟩, hr, c0, c1, c2, c3, c4⟩)
    refine ⟨some a, (List.range len).map V, cap, by simp, fun i x hx => ?_, fun i x hx => ?_, by simp; omega⟩
    · rw [List.getElem?_map] at hx
      rcases Nat.lt_or_ge i len with hi | hi
      · rw [List.getElem?_range hi] at hx
        obtain rfl := Option.some.inj hx
        obtain ⟨_, c0, c1, c2, c3, c4⟩ := hV i hi
        have e : ∀ j, j ≠ 0 → a.add (i * 5 + j) = ⟨(a.add (i * 5)).block, (a.add (i * 5)).off + j, none⟩ := fun j hj => by rw [← Go.Deep.add_add, add_pos _ j hj]
        rw [e 1 (by decide)] at c1
        rw [e 2 (by decide)] at c2
        rw [e 3 (by decide)] at c3
        rw [e 4 (by decide)] at c4
        exact ⟨a, rfl, cell_lt c0, c0, c1, c2, c3, c4⟩
      · rw [List.getElem?_eq_none (by simpa using hi)] at hx
        cases hx
    · rw [List.getElem?_map] at hx
      rcases Nat.lt_or_ge i len with hi | hi
      · rw [List.getElem?_range hi] at hx
        obtain rfl := Option.some.inj hx
        exact (hV i hi).1
      · rw [List.getElem?_eq_none (by simpa using hi)] at hx
        cases hx

end

end Go.Proofs.YtffgkocokkhahaaDoor

/- An argument of type []impl.TreeDeed opened to its deeds' fields. -/
namespace Go.Proofs.YtffgkocokkhahaaDoor
open Go.ChangeShapes Go.WideShapes Go.ChangeAt Go.RowKit Go.Deep
set_option maxRecDepth 100000

section
variable {H : Type} {enc : TypeId × Value → H} {w : World} {base : Nat} {held : Bool}
theorem cellsTD : Tryd.prog.cellsOf 27 = 4 := by kernel_rfl

instance : Inhabited RDV := ⟨⟨⟨#[]⟩, none, 0, [], none, 0, [], 0⟩⟩

theorem open_tdeedsL {fuel : Nat} {cs : List Value} {x : DataW H × List MemPlace} (h : DataW.trod enc Tryd.prog w base (fun _ => true) held fuel 22 cs = some x) :
    ∃ (A : Option Addr) (l : List RDV) (c : Nat), cs = [.slice A l.length c] ∧ RDeedsAt w A l ∧ (∀ d ∈ l, DeedRng d) := by
  rcases open_slice_fields Tryd.underlying22 Tryd.underlying27 (by kernel_rfl) cellsTD h with ⟨rfl, _⟩ | ⟨a, len, cap, m, D, Pl, rfl, _, hl, hm, hmm, _, hel⟩
  · exact ⟨none, [], 0, rfl, fun i x h => by simp at h, fun x h => by simp at h⟩
  · have hmm' : m = cap := hmm
    obtain ⟨V, hV⟩ := choose_lt (α := RDV) (n := len) (p := fun i x => DeedRng x ∧ w.cell? (a.add (i * 4)) = some (.string x.op) ∧ w.cell? (a.add (i * 4 + 1)) = some (.slice x.A x.K.length x.c) ∧ w.cell? (a.add (i * 4 + 2)) = some (.slice x.B x.V.length x.d) ∧ w.cell? (a.add (i * 4 + 3)) = some (.int .i64 x.N) ∧ LAt w x.A x.K ∧ LAt w x.B x.V) (fun i hi => by
      obtain ⟨ys, n, _, _, _, hf⟩ := hel i (by omega)
      obtain ⟨v0, y0, c0, _, t0⟩ := hf 0 _ rfl
      obtain ⟨v1, y1, c1, _, t1⟩ := hf 1 _ rfl
      obtain ⟨v2, y2, c2, _, t2⟩ := hf 2 _ rfl
      obtain ⟨v3, y3, c3, _, t3⟩ := hf 3 _ rfl
      obtain ⟨s, e0, _⟩ := DataW.trod_string Tryd.underlying9 t0
      obtain ⟨A, l, c, e1, hl1, hr1, hm1⟩ := open_values t1
      obtain ⟨B, l2, d, e2, hl2, hr2, hm2⟩ := open_values t2
      obtain ⟨n, e3, _, hn⟩ := DataW.trod_int Tryd.underlying3 t3
      simp only [List.cons.injEq, and_true] at e0 e1 e2 e3
      subst e0 e1 e2 e3
      refine ⟨⟨s, A, c, l, B, d, l2, n⟩, ⟨fun x hx => ?_, fun x hx => ?_⟩, c0, c1, c2, c3, hl1, hl2⟩
      · obtain ⟨j, hj, rfl⟩ := List.getElem_of_mem hx
        exact hr1 j _ (List.getElem?_eq_getElem hj)
      · obtain ⟨j, hj, rfl⟩ := List.getElem_of_mem hx
        exact hr2 j _ (List.getElem?_eq_getElem hj))
    refine ⟨some a, (List.range len).map V, cap, by simp, fun i x hx => ?_, fun x hx => ?_⟩
    · rw [List.getElem?_map] at hx
      rcases Nat.lt_or_ge i len with hi | hi
      · rw [List.getElem?_range hi] at hx
        obtain rfl := Option.some.inj hx
        obtain ⟨_, c0, c1, c2, c3, hl1, hl2⟩ := hV i hi
        rw [madd_off a (i * 4) 1 (by decide)] at c1
        rw [madd_off a (i * 4) 2 (by decide)] at c2
        rw [madd_off a (i * 4) 3 (by decide)] at c3
        exact ⟨⟨a, rfl, cell_lt c0, c0, c1, c2, c3⟩, hl1, hl2⟩
      · rw [List.getElem?_eq_none (by simpa using hi)] at hx
        cases hx
    · obtain ⟨i, hi, rfl⟩ := List.mem_map.1 hx
      exact (hV i (List.mem_range.1 hi)).1

theorem open_tdeeds {r : Reach} {b0 : Nat} {v : Value} {d : DataW H} {p : List MemPlace} (hv : Value.okWide Tryd.prog w r b0 22 v) (h : DataW.Trod enc Tryd.prog w base (fun _ => true) held 22 v d p) :
    ∃ (A : Option Addr) (l : List RDV) (c : Nat), v = .slice A l.length c ∧ RDeedsAt w A l ∧ (∀ d ∈ l, DeedRng d) := by
  obtain ⟨a0, len, cap, rfl⟩ := okWide_slice Tryd.underlying22 hv
  obtain ⟨fuel, hf⟩ := h
  obtain ⟨A, l, c, e0, hl, hr⟩ := open_tdeedsL hf
  have e1 : (Value.slice a0 len cap) = .slice A l.length c := by
    have : [Value.slice a0 len cap] = [.slice A l.length c] := e0
    simpa using this
  exact ⟨A, l, c, e1, hl, hr⟩

end

end Go.Proofs.YtffgkocokkhahaaDoor

/- What the program's text lays into the end's own error, as a walk wants it; a world that has it. -/
namespace Go.Proofs.YtffgkocokkhahaaDoor
open Go.ChangeShapes Go.WideShapes Go.RowKit
set_option maxRecDepth 100000

theorem globEof : Tryd.prog.globalNamed "io.EOF" = some 0 := by kernel_rfl
theorem globEofType : (Tryd.prog.globals[0]?).map (·.type) = some 72 := by kernel_rfl
theorem cellsE : Tryd.prog.cellsOf 248 = 1 := by kernel_rfl
theorem starE : "*" ++ "errors.errorString" = "*errors.errorString" := by decide
theorem rowE (u : TypeId) (h : Tryd.prog.typeName? 3 u = some "*errors.errorString") : u = 246 :=
  typeName_ptr_named (nm := "errors.errorString") (by rw [starE]; kernel_rfl) (by kernel_rfl) (by decide) u (by rw [starE]; exact h)

abbrev laid1 : List (String × DataW Unit) := [("io.EOF", Rows.laid_io_EOF)]

theorem eof_of_laid {W : World} (h : laidMet Tryd.prog laid1 W) : ∃ E, HasEof W E := by
  obtain ⟨ps, ⟨g0, t0, cs0, f0, p0, q0, hg0, ht0, hv0, hd0, hq0, e0⟩, hnd, hrows⟩ := h
  obtain rfl := Option.some.inj (globEof.symm.trans hg0)
  obtain rfl := Option.some.inj (globEofType.symm.trans ht0)
  subst e0
  obtain ⟨l0⟩ := cs0
  have ok0 : ∀ u v, l0 = [.iface u v] → Value.okWide Tryd.prog W .any 0 u v := fun u v e => by
    subst e
    exact (hrows 0 0 (by simp [MemPlace.row])).2 u v (by simpa using World.var?_cell hg0 hv0 0)
  obtain ⟨a0, s0, rfl, hc0, hs0, hz0, rfl⟩ := errorString_of_trod Tryd.underlying72 rowE Tryd.underlying246 Tryd.underlying248 rfl rfl Tryd.underlying9 cellsE cellsS hd0 ok0
  have hc : W.cell? ⟨0, 0, none⟩ = some (.iface 246 (.pointer (some a0))) := by simpa using World.var?_cell globEof hv0 0
  refine ⟨_, ?_, hc, a0, rfl⟩
  rcases Nat.lt_or_ge 0 W.heap.size with h' | h'
  · exact h'
  · simp [World.cell?, Array.getElem?_eq_none h'] at hc

abbrev eofS : ByteArray := { data := #[69, 79, 70] }
noncomputable def low : Nat := (World.holding Tryd.prog default ⟨#[], #[], []⟩).heap.size
def putErr (k : Nat) : Obj → Obj
  | .cells _ t frozen => .cells #[.iface 246 (.pointer (some ⟨k, 0, none⟩))] t frozen
  | o => o
noncomputable def laidWorld (os : Os) : World :=
  let w0 := World.holding Tryd.prog os ⟨#[.cells #[.string eofS] 248], #[], []⟩
  { w0 with heap := w0.heap.modify 0 (putErr low) }
theorem laidWorld_met (os : Os) (args : Array Value) : laidMet Tryd.prog laid1 ((laidWorld os).forCall (fun _ _ => 0) ⟨#[], args, []⟩).memory :=
  laidMet_of_run (ps := [.cell 0 0, .cell low 0]) 8 (by kernel_rfl) (by kernel_rfl) (by kernel_rfl)

end Go.Proofs.YtffgkocokkhahaaDoor
