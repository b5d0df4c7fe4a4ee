/-
  What the conversions between float64 and float32 do in the model: exact ones; a NaN and a number too great for float32 are drawn.
-/
import Derived.Test.YtffgkocokkhahaaGreatDoorBase
namespace Go.Proofs.YtffgkocokkhahaaGreatDoor
open Go.RowKit

/-- What a float64 that is no number becomes as a float32 (drawn), and back. -/
def nan32 (W : World) (f : Nat) : Nat := (Question.nanConv .f32 f).cut (W.tape W.drawn (.nanConv .f32 f))
def nan64 (W : World) (f : Nat) : Nat := (Question.nanConv .f64 f).cut (W.tape W.drawn (.nanConv .f64 f))
/-- What a float64 too great for a float32 becomes (drawn). -/
def over32 (W : World) (f : Nat) : Nat := (Question.floatToFloat f).cut (W.tape W.drawn (.floatToFloat f))
/-- A float32 as a float64; how often is drawn. -/
def wide (W : World) (x : Nat) : Nat := if (Ieee.single.read x).isNaN = true then nan64 W x else Flt.up x
def wideN (x : Nat) : Nat := if (Ieee.single.read x).isNaN = true then 1 else 0

theorem nan_of_rung (f : Ieee.Format) {x : Nat} (h : f.infRung < x % f.signWeight) (h2 : f.binade ≤ f.infRung) : (f.read x).isNaN = true := by
  unfold Ieee.Format.read
  simp only
  rw [if_neg (by omega), if_neg (by omega), if_neg (by omega)]
  rfl
theorem isNaN_nan32 (W : World) (f : Nat) : (Ieee.single.read (nan32 W f)).isNaN = true := by
  refine nan_of_rung _ ?_ (by rw [Flt.s_inf, Flt.s_bin]; omega)
  rw [Flt.s_inf, Flt.s_sign]
  unfold nan32 Question.cut
  generalize W.tape W.drawn (.nanConv .f32 f) = t
  simp only [Nat.reducePow, Nat.reduceSub]
  have hp : t % 2 = 0 ∨ t % 2 = 1 := by omega
  rcases hp with h | h <;> rw [h] <;> omega
theorem isNaN_nan64 (W : World) (f : Nat) : (Ieee.double.read (nan64 W f)).isNaN = true := by
  refine nan_of_rung _ ?_ (by rw [Flt.d_inf, Flt.d_bin]; omega)
  rw [Flt.d_inf, Flt.d_sign]
  unfold nan64 Question.cut
  generalize W.tape W.drawn (.nanConv .f64 f) = t
  simp only [Nat.reducePow, Nat.reduceSub]
  have hp : t % 2 = 0 ∨ t % 2 = 1 := by omega
  rcases hp with h | h <;> rw [h] <;> omega
theorem nan32_lt (W : World) (f : Nat) : nan32 W f < 4294967296 := by
  unfold nan32 Question.cut
  generalize W.tape W.drawn (.nanConv .f32 f) = t
  simp only [Nat.reducePow, Nat.reduceSub]
  have hp : t % 2 = 0 ∨ t % 2 = 1 := by omega
  rcases hp with h | h <;> rw [h] <;> omega
theorem over32_lt (W : World) (f : Nat) : over32 W f < 4294967296 := Nat.mod_lt _ (by decide)

theorem run_nan32 (f : Nat) (h : (Ieee.double.read f).isNaN = true) (W : World) : (convert 55 161 (.float .f64 f)).run Tryz.prog W = .ok (.float .f32 (nan32 W f)) W.drew := by
  have hs : Tryz.prog.underlying 55 = some (.float .f64) := Tryz.underlying55
  have he : FloatKind.f64.decode f = Ieee.double.read f := rfl
  cases hd : Ieee.double.read f with
  | nan s t => simp [convert, run_underlying hs, run_underlying Tryz.underlying161, Conv.floatToFloat, he, hd, Question.forced, nan32]
  | infinity s => rw [hd] at h; cases h
  | number s m p => rw [hd] at h; cases h
theorem run_nan64 (f : Nat) (h : (Ieee.single.read f).isNaN = true) (W : World) : (convert 161 55 (.float .f32 f)).run Tryz.prog W = .ok (.float .f64 (nan64 W f)) W.drew := by
  have hs : Tryz.prog.underlying 161 = some (.float .f32) := Tryz.underlying161
  have he : FloatKind.f32.decode f = Ieee.single.read f := rfl
  cases hd : Ieee.single.read f with
  | nan s t => simp [convert, run_underlying hs, run_underlying Tryz.underlying55, Conv.floatToFloat, he, hd, Question.forced, nan64]
  | infinity s => rw [hd] at h; cases h
  | number s m p => rw [hd] at h; cases h
theorem run_over32 (f : Nat) (h : (Ieee.single.read (Flt.down f)).isInfinity = true) (h2 : (Ieee.double.read f).isInfinity = false) (h3 : (Ieee.double.read f).isNaN = false) (W : World) :
    (convert 55 161 (.float .f64 f)).run Tryz.prog W = .ok (.float .f32 (over32 W f)) W.drew := by
  have hs : Tryz.prog.underlying 55 = some (.float .f64) := Tryz.underlying55
  have he : FloatKind.f64.decode f = Ieee.double.read f := rfl
  cases hd : Ieee.double.read f with
  | nan s t => rw [hd] at h3; cases h3
  | infinity s => rw [hd] at h2; cases h2
  | number s m p =>
    have hi : (FloatKind.f32.decode (FloatKind.f32.encode (.number s m p))).isInfinity = true := by
      unfold Flt.down at h
      rw [hd] at h
      exact h
    simp [convert, run_underlying hs, run_underlying Tryz.underlying161, Conv.floatToFloat, he, hd, hi, Question.forced, over32]
/-- Where it is neither, the nearest one. -/
theorem run_narrow (f : Nat) (h : ((Ieee.single.read (Flt.down f)).isInfinity && !(Ieee.double.read f).isInfinity) = false) (h3 : (Ieee.double.read f).isNaN = false) (W : World) :
    (convert 55 161 (.float .f64 f)).run Tryz.prog W = .ok (.float .f32 (Flt.down f)) W := by
  refine run_convert_float_float W 55 161 .f64 .f32 f _ (by rw [Tryz.underlying55]; rfl) Tryz.underlying161 ?_
  unfold floatToFloatBits
  rw [if_neg (by decide)]
  have he : FloatKind.f64.decode f = Ieee.double.read f := rfl
  rw [he]
  unfold Flt.down at h ⊢
  cases hd : Ieee.double.read f with
  | nan s t => rw [hd] at h3; cases h3
  | infinity s => rfl
  | number s m p =>
    rw [hd] at h
    have hi : (FloatKind.f32.decode (FloatKind.f32.encode (.number s m p))).isInfinity = false := by
      have h' : ((Ieee.single.read (Ieee.single.write (.number s m p))).isInfinity && !false) = false := h
      exact (by simpa using h' : (Ieee.single.read (Ieee.single.write (.number s m p))).isInfinity = false)
    simp only [hi]
    rfl
theorem run_wide (x : Nat) (h : (Ieee.single.read x).isNaN = false) (W : World) :
    (convert 161 55 (.float .f32 x)).run Tryz.prog W = .ok (.float .f64 (Flt.up x)) W := by
  refine run_convert_float_float W 161 55 .f32 .f64 x _ (by rw [Tryz.underlying161]; rfl) Tryz.underlying55 ?_
  obtain ⟨_, _, _, hu⟩ := Flt.up_key h
  unfold floatToFloatBits
  rw [if_neg (by decide)]
  have he : FloatKind.f32.decode x = Ieee.single.read x := rfl
  rw [he]
  unfold Flt.up at hu ⊢
  cases hd : Ieee.single.read x with
  | nan s t => rw [hd] at h; cases h
  | infinity s => rfl
  | number s m p =>
    rw [hd] at hu
    have hi : (FloatKind.f64.decode (FloatKind.f64.encode (.number s m p))).isInfinity = false := hu
    simp only [hi]
    rfl
theorem run_wide_any (x : Nat) (W : World) :
    (convert 161 55 (.float .f32 x)).run Tryz.prog W = .ok (.float .f64 (wide W x)) (W.drewN (wideN x)) := by
  by_cases h : (Ieee.single.read x).isNaN = true
  · rw [run_nan64 x h, wide, wideN, if_pos h, if_pos h]
    rfl
  · rw [run_wide x (by simpa using h), wide, wideN, if_neg h, if_neg h]
    rfl

theorem numB_nan (f : Nat) : numB f = !(Ieee.double.read f).isNaN := by
  unfold numB Ieee.Format.order
  cases hd : Ieee.double.read f with
  | nan s t => rfl
  | infinity s => cases s <;> rfl
  | number s m p =>
    simp only [Ieee.Datum.order, Ieee.Datum.isNaN, Bool.not_false]
    generalize Ieee.signed s m _ = z
    have : compare z z = Ordering.eq := by simp [compare, compareOfLessAndEq]
    rw [this]
    rfl
theorem bitsV_nan {f : Nat} (h : (Ieee.double.read f).isNaN = true) : bitsV f = 1 := by
  unfold bitsV
  rw [numB_nan, h]
  rfl
theorem bitsV_num {f : Nat} (h : (Ieee.double.read f).isNaN = false) : bitsV f = f := by
  unfold bitsV
  rw [numB_nan, h]
  rfl

/-- A drawn float32 is not the float64 that was too great. -/
theorem wide_over {W : World} {x f : Nat} (hx : x < 4294967296) (h : (Ieee.single.read (Flt.down f)).isInfinity = true) (h2 : (Ieee.double.read f).isInfinity = false) (h3 : (Ieee.double.read f).isNaN = false) :
    bitsV (wide W x) ≠ bitsV f := by
  rw [bitsV_num h3]
  unfold wide
  by_cases hn : (Ieee.single.read x).isNaN = true
  · rw [if_pos hn, bitsV_nan (isNaN_nan64 _ _)]
    rintro rfl
    revert h
    decide +kernel
  · have hn' : (Ieee.single.read x).isNaN = false := by simpa using hn
    obtain ⟨_, _, k3, k4⟩ := Flt.up_key hn'
    rw [if_neg hn, bitsV_num k3]
    rintro rfl
    rw [Flt.down_up hx hn'] at h
    rw [k4, h] at h2
    cases h2

end Go.Proofs.YtffgkocokkhahaaGreatDoor
