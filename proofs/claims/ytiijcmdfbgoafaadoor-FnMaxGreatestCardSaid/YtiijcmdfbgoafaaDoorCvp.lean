/-
  Conversions: how the walks of ql.convert end; a float that becomes an integer; the errors. PRINTED BY wip/tpl/gen_cvt.py.
-/
import Derived.Test.YtiijcmdfbgoafaaDoorTc
namespace Go.Proofs.YtiijcmdfbgoafaaDoor
open Go.RowKit

/-- What a float becomes as an integer: the number cut, where the type has it; else one that is drawn. -/
def fti (s : FloatKind) (x : Nat) (q : IntKind) (W : World) : Int :=
  match floatToIntVal s x q with
  | some n => n
  | none => q.wrap ((Question.floatToInt s x q).cut (W.tape W.drawn (.floatToInt s x q)))
def ftiN (s : FloatKind) (x : Nat) (q : IntKind) : Nat := match floatToIntVal s x q with | some _ => 0 | none => 1

theorem run_fti (src dst : TypeId) (s : FloatKind) (q : IntKind) (x : Nat) (hs : (Tryd.prog.underlying src).isSome = true) (hd : Tryd.prog.underlying dst = some (.int q)) (W : World) :
    (convert src dst (.float s x)).run Tryd.prog W = .ok (.int q (fti s x q W)) (W.drewN (ftiN s x q)) := by
  cases h : floatToIntVal s x q with
  | some n =>
    rw [run_convert_float_int W src dst s q x n hs hd h]
    unfold fti ftiN
    rw [h]
    rfl
  | none =>
    obtain ⟨u, hs'⟩ := Option.isSome_iff_exists.1 hs
    unfold fti ftiN
    rw [h]
    unfold floatToIntVal at h
    split at h
    · rename_i m he
      split at h
      · cases h
      · rename_i hb
        cases u <;> simp [convert, run_underlying hs', run_underlying hd, Conv.floatToInt, he, hb, Question.forced] <;> rfl
    · rename_i he
      cases u <;> simp [convert, run_underlying hs', run_underlying hd, Conv.floatToInt, he, Question.forced] <;> rfl

theorem wrap_in (q : IntKind) (n : Int) : q.min ≤ q.wrap n ∧ q.wrap n ≤ q.max := by
  cases q <;> simp only [IntKind.min, IntKind.max, IntKind.wrap, IntKind.bits, IntKind.signed, if_true, if_false, Bool.true_and, Bool.false_and, Bool.false_eq_true, decide_eq_true_eq, ge_iff_le, Nat.reduceSub, Int.reducePow] at * <;> (try split) <;> omega

theorem wrap32_in (n : Int) : IntKind.i32.min ≤ wrap32 n ∧ wrap32 n ≤ IntKind.i32.max := by simp only [IntKind.min, IntKind.max, IntKind.signed, IntKind.bits, if_true, Nat.reduceSub, Int.reducePow]; unfold wrap32; omega
theorem wrap64_in (n : Int) : IntKind.i64.min ≤ wrap64 n ∧ wrap64 n ≤ IntKind.i64.max := by simp only [IntKind.min, IntKind.max, IntKind.signed, IntKind.bits, if_true, Nat.reduceSub, Int.reducePow]; unfold wrap64; omega

theorem fti_in (s : FloatKind) (x : Nat) (q : IntKind) (W : World) : q.min ≤ fti s x q W ∧ fti s x q W ≤ q.max := by
  unfold fti
  cases h : floatToIntVal s x q with
  | some n =>
    unfold floatToIntVal at h
    split at h
    · split at h
      · rename_i hb
        cases h
        exact hb
      · cases h
    · cases h
  | none => exact wrap_in _ _

/-- An error of package errors, and no value. -/
def CvNo (w : World) (e : Ending) (w' : World) : Prop := ∃ p, e = .returned (.tuple #[.nilIface, .iface 101 (.pointer (some p))]) ∧ Er w' p ∧ Below w.heap.size w w'

set_option maxRecDepth 100000 in
set_option maxHeartbeats 1000000 in
theorem invConv_er (v : Value) (t : Int) (w : World) : Calls Tryd.prog 62 #[v, .int .i64 t] w (CvNo w) := by
  go_enter Tryd.func62, Tryd.ntmps62
  go_wp2_with (go_at_call 56; refine (errNew_er _ _).mono ?_; rintro e w1 ⟨p, rfl, he, hb1⟩; have HE := Lib.hid he; clear he)
  go_ret2
  exact ⟨p, rfl, HE.out, hb1⟩

set_option maxRecDepth 100000 in
set_option maxHeartbeats 1000000 in
theorem truncConv_er (v : Value) (w : World) : Calls Tryd.prog 64 #[v] w (CvNo w) := by
  go_enter Tryd.func64, Tryd.ntmps64
  go_wp2_with (go_at_call 56; refine (errNew_er _ _).mono ?_; rintro e w1 ⟨p, rfl, he, hb1⟩; have HE := Lib.hid he; clear he)
  go_ret2
  exact ⟨p, rfl, HE.out, hb1⟩

/-- The kind of a value. -/
def SV.kd : SV → Kd
  | .null => .null | .bool _ => .bool | .int q _ => .int q | .f32 _ => .f32 | .f64 _ => .f64 | .str _ => .str | .blob _ => .blob | .iInt _ => .iInt | .iRune _ => .iRune | .iUint _ => .iUint | .iFloat _ => .iFloat
/-- A text is not too long. -/
def SV.small : SV → Prop
  | .str s => s.size ≤ 65536
  | .blob l => l.length ≤ 65536
  | _ => True

/-- A string's bytes in new memory. -/
def CvBlob (s : ByteArray) (w : World) (e : Ending) (w' : World) : Prop :=
  ∃ b cap, e = .returned (.tuple #[.iface 78 (.slice (some ⟨b, 0, none⟩) s.size cap), .nilIface]) ∧ w.heap.size ≤ b ∧ b < w'.heap.size ∧ Below w.heap.size w w' ∧ ∀ j, w'.cell? ⟨b, j, none⟩ = (bytesRow s cap)[j]?

/-- A literal's float is converted as a float64 is. -/
theorem convI (f : Nat) (W : World) : (convert 91 37 (.float .f64 f)).run Tryd.prog W = (convert 28 37 (.float .f64 f)).run Tryd.prog W := by
  have h1 : Tryd.prog.underlying 91 = some (.float .f64) := Tryd.underlying91
  have h2 : Tryd.prog.underlying 28 = some (.float .f64) := Tryd.underlying28
  simp [convert, run_underlying h1, run_underlying h2, run_underlying Tryd.underlying37]
theorem run_nan32I (f : Nat) (h : (Ieee.double.read f).isNaN = true) (W : World) : (convert 91 37 (.float .f64 f)).run Tryd.prog W = .ok (.float .f32 (nan32 W f)) W.drew := by
  rw [convI]
  exact run_nan32 f h W
theorem run_over32I (f : Nat) (h : (Ieee.single.read (Flt.down f)).isInfinity = true) (h2 : (Ieee.double.read f).isInfinity = false) (h3 : (Ieee.double.read f).isNaN = false) (W : World) : (convert 91 37 (.float .f64 f)).run Tryd.prog W = .ok (.float .f32 (over32 W f)) W.drew := by
  rw [convI]
  exact run_over32 f h h2 h3 W
theorem run_narrowI (f : Nat) (h : ((Ieee.single.read (Flt.down f)).isInfinity && !(Ieee.double.read f).isInfinity) = false) (h3 : (Ieee.double.read f).isNaN = false) (W : World) : (convert 91 37 (.float .f64 f)).run Tryd.prog W = .ok (.float .f32 (Flt.down f)) W := by
  rw [convI]
  exact run_narrow f h h3 W
end Go.Proofs.YtiijcmdfbgoafaaDoor
