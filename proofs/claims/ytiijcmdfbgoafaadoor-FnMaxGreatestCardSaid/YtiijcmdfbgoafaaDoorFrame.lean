/-
  An argument of type impl.Value, opened to its five fields.
-/
import Derived.Test.YtiijcmdfbgoafaaDoorIn
import Derived.ProofKit
import Derived.OpenShut
import Derived.ShutString
import Derived.ChangeOld
import Derived.Below
import Derived.Laws.Cover2
import Derived.Deep.Slices
import Derived.Deep.Fields
namespace Go.Proofs.YtiijcmdfbgoafaaDoor
open Go.ChangeShapes Go.WideShapes Go.ChangeAt Go.RowKit Go.Deep
set_option maxRecDepth 100000

theorem own : ownKnob Tryd.prog.godebug = none := by kernel_rfl
theorem laidOut : laidOutB Tryd.prog = true := by kernel_rfl
theorem cellsV : Tryd.prog.cellsOf 30 = 5 := by kernel_rfl
theorem cellsS : Tryd.prog.cellsOf 9 = 1 := by kernel_rfl
theorem cellsI : Tryd.prog.cellsOf 2 = 1 := by kernel_rfl
theorem cellsU : Tryd.prog.cellsOf 27 = 1 := by kernel_rfl
theorem cellsF : Tryd.prog.cellsOf 28 = 1 := by kernel_rfl

section
variable {H : Type} {enc : TypeId × Value → H} {P : Program} {w : World} {base : Nat} {spare : Nat → Bool} {held : Bool}

theorem trod_float {t : TypeId} {k : FloatKind} {fuel : Nat} {cs : List Value} {x : DataW H × List MemPlace} (ht : P.underlying t = some (.float k)) (h : DataW.trod enc P w base spare held fuel t cs = some x) :
    ∃ b, cs = [.float k b] ∧ (Lit.float k b).wf = true := by
  cases fuel with
  | zero => simp [DataW.trod] at h
  | succ n =>
    unfold DataW.trod at h
    rw [ht] at h
    split at h <;> simp_all

/-- The five fields of a value that came in. -/
structure IsVal (v : Value) (k : ByteArray) (n u : Int) (f : Nat) (s : ByteArray) : Prop where
  eq : v = .agg #[.string k, .int .i64 n, .int .u64 u, .float .f64 f, .string s]
  rng : Rng n u f
  kl : k.size ≤ maxLen
  sl : s.size ≤ maxLen

theorem isVal_of {c0 c1 c2 c3 c4 : Value} {y0 y1 y2 y3 y4 : DataW H × List MemPlace} {n0 n1 n2 n3 n4 : Nat}
    (h0 : DataW.trod enc Tryd.prog w base spare held n0 9 [c0] = some y0) (h1 : DataW.trod enc Tryd.prog w base spare held n1 2 [c1] = some y1)
    (h2 : DataW.trod enc Tryd.prog w base spare held n2 27 [c2] = some y2) (h3 : DataW.trod enc Tryd.prog w base spare held n3 28 [c3] = some y3)
    (h4 : DataW.trod enc Tryd.prog w base spare held n4 9 [c4] = some y4) : ∃ k n u f s, IsVal (.agg #[c0, c1, c2, c3, c4]) k n u f s := by
  obtain ⟨k, e0, _, hk⟩ := DataW.trod_string Tryd.underlying9 h0
  obtain ⟨n, e1, _, hn⟩ := DataW.trod_int Tryd.underlying2 h1
  obtain ⟨u, e2, _, hu⟩ := DataW.trod_int Tryd.underlying27 h2
  obtain ⟨f, e3, hf⟩ := trod_float Tryd.underlying28 h3
  obtain ⟨s, e4, _, hs⟩ := DataW.trod_string Tryd.underlying9 h4
  simp only [List.cons.injEq, and_true] at e0 e1 e2 e3 e4
  subst e0 e1 e2 e3 e4
  refine ⟨k, n, u, f, s, rfl, ?_, hk, hs⟩
  simp only [Lit.wf, Bool.and_eq_true, decide_eq_true_eq, IntKind.min, IntKind.max, IntKind.signed, IntKind.bits, if_true, Bool.false_eq_true, if_false, Nat.reduceSub, Int.reducePow, Int.reduceSub, Int.reduceNeg, Nat.reducePow] at hn hu hf
  exact ⟨hn.1, hn.2, hu.1, hu.2, hf⟩

theorem open_value {r : Reach} {b0 : Nat} {v : Value} {d : DataW H} {p : List MemPlace} (hv : Value.okWide Tryd.prog w r b0 30 v) (h : DataW.Trod enc Tryd.prog w base spare held 30 v d p) :
    ∃ k n u f s, IsVal v k n u f s := by
  obtain ⟨cs, rfl, hsz⟩ := okWide_struct Tryd.underlying30 hv
  obtain ⟨l⟩ := cs
  match l, hsz.trans cellsV with
  | [c0, c1, c2, c3, c4], _ =>
    obtain ⟨fuel, hf⟩ := h
    obtain ⟨xs, n, _, _, _, hlen, hg⟩ := DataW.trod_struct Tryd.underlying30 hf
    match xs, hlen with
    | [y0, y1, y2, y3, y4], _ =>
      exact isVal_of (y0 := y0) (y1 := y1) (y2 := y2) (y3 := y3) (y4 := y4) (by simpa [Value.cells, cellsS] using hg 0 _ rfl) (by simpa [Value.cells, cellsI] using hg 1 _ rfl)
        (by simpa [Value.cells, cellsU] using hg 2 _ rfl) (by simpa [Value.cells, cellsF] using hg 3 _ rfl) (by simpa [Value.cells, cellsS] using hg 4 _ rfl)
end

end Go.Proofs.YtiijcmdfbgoafaaDoor
