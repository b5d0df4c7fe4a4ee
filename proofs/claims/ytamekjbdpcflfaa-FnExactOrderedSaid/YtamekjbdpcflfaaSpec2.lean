/-
  spec.Valid at valid values of ordered types (all of them but blobs); spec.Ordered.
-/
import Derived.Test.YtamekjbdpcflfaaSpec
import Derived.Test.YtamekjbdpcflfaaConc
import Derived.Deep.RegionWith
namespace Go.Proofs.Ytamekjbdpcflfaa
open Go.RowKit

theorem up_below {B : Nat} {w w' w'' : World} (h : Below B w w') (hB : B ≤ w.heap.size) (h2 : Below w'.heap.size w' w'') : Below B w w'' := h.trans (h2.mono (Nat.le_trans hB h.size))
theorem bcellD {W w1 : World} (hb : Below W.drew.heap.size W.drew w1) : (∀ b o, b < W.heap.size → w1.cell? ⟨b, o, none⟩ = W.cell? ⟨b, o, none⟩) ∧ (∀ b o, b < W.heap.size → w1.frozen? ⟨b, o, none⟩ = W.frozen? ⟨b, o, none⟩) := bcell (W := W.drew) hb
theorem conc_valid {kd : Kd} {n u : Int} {f : Nat} {s : ByteArray} (h : concB kd n u f s = true) : validB kd n u f s = true := by
  unfold concB at h
  simp only [Bool.and_eq_true] at h
  exact h.1.1

set_option maxRecDepth 100000 in
set_option maxHeartbeats 1000000 in
theorem sval_f32_nan (k : ByteArray) (hk : Kd.of k.toList = .f32) (n u : Int) (f : Nat) (s : ByteArray) (hn : (n == 0) = true) (hu : (u == 0) = true) (hs : s.toList.isEmpty = true) (hf : numB f = false) (w : World) :
    Calls Try.prog 31 #[.agg #[.string k, .int .i64 n, .int .u64 u, .float .f64 f, .string s]] w fun e w' => e = .returned (.bool true) ∧ Below w.heap.size w w' := by
  have hl := Kd.of_lit _ hk (by simp)
  simp only [Kd.lit] at hl
  have h1 := fun w => vSgn_any k w
  have h2 := fun w => vUns_any k w
  rw [hk] at h1 h2
  rw [show Kd.vSgn .f32 = false from rfl] at h1
  rw [show Kd.vUns .f32 = false from rfl] at h2
  have H1 := Lib.hid h1
  have H2 := Lib.hid h2
  have hfb := run_f64bits f
  have hne : (FloatKind.f64.format.order f f == some .eq) = false := hf
  have hne' : (FloatKind.f64.format.order f f != some .eq) = true := by unfold bne; rw [hne]; rfl
  clear hk h1 h2 hf hne
  go_enter Try.func31, Try.ntmps31
  go_wp2
  go_quiet (fail)
  go_wp2_with (first | (go_at_call 46; refine (H1.out _).mono ?_; rintro e w' ⟨rfl, rfl⟩) | (go_at_call 49; refine (H2.out _).mono ?_; rintro e w' ⟨rfl, rfl⟩))
  go_ret
  exact ⟨rfl, by repeat (first | exact Below.refl _ _ | exact (Below.refl _ _).alloc (Nat.le_refl _) _ | refine below_drewN ?_ _)⟩

set_option maxRecDepth 100000 in
set_option maxHeartbeats 1000000 in
theorem sval_f32_num (k : ByteArray) (hk : Kd.of k.toList = .f32) (n u : Int) (f : Nat) (s : ByteArray) (hn : (n == 0) = true) (hu : (u == 0) = true) (hs : s.toList.isEmpty = true) (hf : numB f = true)
    (h1 : ((Ieee.single.read (Flt.down f)).isInfinity && !(Ieee.double.read f).isInfinity) = false) (h4 : Flt.up (Flt.down f) = f) (w : World) :
    Calls Try.prog 31 #[.agg #[.string k, .int .i64 n, .int .u64 u, .float .f64 f, .string s]] w fun e w' => e = .returned (.bool true) ∧ Below w.heap.size w w' := by
  have hl := Kd.of_lit _ hk (by simp)
  simp only [Kd.lit] at hl
  have g1 := fun w => vSgn_any k w
  have g2 := fun w => vUns_any k w
  rw [hk] at g1 g2
  rw [show Kd.vSgn .f32 = false from rfl] at g1
  rw [show Kd.vUns .f32 = false from rfl] at g2
  have H1 := Lib.hid g1
  have H2 := Lib.hid g2
  have hfb := run_f64bits f
  have hnan : (Ieee.double.read f).isNaN = false := by rw [numB_nan] at hf; simpa using hf
  have heq : (FloatKind.f64.format.order f f == some .eq) = true := hf
  have hne : (FloatKind.f64.format.order f f != some .eq) = false := by unfold bne; rw [heq]; rfl
  have c1 := fun W => run_narrow f h1 hnan W
  have c2 := fun W => run_wide (Flt.down f) (down_num hnan) W
  rw [h4] at c2
  clear hk g1 g2 hf h1 h4 hnan
  go_enter Try.func31, Try.ntmps31
  go_wp2
  go_quiet (fail)
  go_wp2_with (first | (go_at_call 46; refine (H1.out _).mono ?_; rintro e w' ⟨rfl, rfl⟩) | (go_at_call 49; refine (H2.out _).mono ?_; rintro e w' ⟨rfl, rfl⟩))
  go_ret
  exact ⟨rfl, by repeat (first | exact Below.refl _ _ | exact (Below.refl _ _).alloc (Nat.le_refl _) _ | refine below_drewN ?_ _)⟩

theorem zeros_f {f : Nat} {s : ByteArray} (h : zeros f s = true) : ((f : Int) == 0) = true ∧ s.toList.isEmpty = true := by
  unfold zeros at h
  simp only [Bool.and_eq_true, beq_iff_eq] at h
  refine ⟨?_, h.2⟩
  have h1 := h.1
  unfold bitsV at h1
  split at h1
  · subst h1; rfl
  · cases h1
theorem bitsV_zero {f : Nat} (h : bitsV f = 0) : ((f : Int) == 0) = true := by
  unfold bitsV at h
  split at h
  · subst h; rfl
  · cases h

theorem sval_any (k : ByteArray) (n u : Int) (f : Nat) (s : ByteArray) (hr : Rng n u f) (hv : validB (Kd.of k.toList) n u f s = true) (ho : (Kd.of k.toList).vOrd = true) (hb : Kd.of k.toList ≠ .blob) (w : World) :
    Calls Try.prog 31 #[.agg #[.string k, .int .i64 n, .int .u64 u, .float .f64 f, .string s]] w fun e w' => e = .returned (.bool true) ∧ Below w.heap.size w w' := by
  obtain ⟨r1, r2, r3, r4, r5⟩ := hr
  cases hk : Kd.of k.toList with
  | null => rw [hk] at ho; cases ho
  | bool => rw [hk] at ho; cases ho
  | other => rw [hk] at ho; cases ho
  | iInt => rw [hk] at ho; cases ho
  | iRune => rw [hk] at ho; cases ho
  | iUint => rw [hk] at ho; cases ho
  | iFloat => rw [hk] at ho; cases ho
  | blob => exact absurd hk hb
  | int q =>
    rw [hk] at hv
    cases q <;> simp only [validB, Bool.and_eq_true, beq_iff_eq] at hv
    case i8 => exact sval_i8 k hk n u f s (by omega) (by omega) (by simpa using hv.1.1) (zeros_f hv.1.2).1 (zeros_f hv.1.2).2 w
    case i16 => exact sval_i16 k hk n u f s (by omega) (by omega) (by simpa using hv.1.1) (zeros_f hv.1.2).1 (zeros_f hv.1.2).2 w
    case i32 => exact sval_i32 k hk n u f s (by omega) (by omega) (by simpa using hv.1.1) (zeros_f hv.1.2).1 (zeros_f hv.1.2).2 w
    case i64 => exact sval_i64 k hk n u f s (by omega) (by omega) (by simpa using hv.1.1) (zeros_f hv.1.2).1 (zeros_f hv.1.2).2 w
    case u8 => exact sval_u8 k hk n u f s (by omega) (by simpa using hv.1.1) (zeros_f hv.1.2).1 (zeros_f hv.1.2).2 w
    case u16 => exact sval_u16 k hk n u f s (by omega) (by simpa using hv.1.1) (zeros_f hv.1.2).1 (zeros_f hv.1.2).2 w
    case u32 => exact sval_u32 k hk n u f s (by omega) (by simpa using hv.1.1) (zeros_f hv.1.2).1 (zeros_f hv.1.2).2 w
    case u64 => exact sval_u64 k hk n u f s (by omega) (by simpa using hv.1) (zeros_f hv.2).1 (zeros_f hv.2).2 w
  | f64 =>
    rw [hk] at hv
    simp only [validB, Bool.and_eq_true] at hv
    exact sval_f64 k hk n u f s hv.1.1 hv.1.2 hv.2 w
  | str =>
    rw [hk] at hv
    simp only [validB, Bool.and_eq_true] at hv
    exact sval_str k hk n u f s hv.1.1.1 hv.1.1.2 (bitsV_zero (eq_of_beq hv.1.2)) w
  | f32 =>
    rw [hk] at hv
    simp only [validB, Bool.and_eq_true] at hv
    obtain ⟨⟨⟨v1, v2⟩, v3⟩, v4⟩ := hv
    cases hnum : numB f with
    | false => exact sval_f32_nan k hk n u f s v1 v2 v3 hnum w
    | true =>
      unfold single64 at v4
      rw [hnum] at v4
      simp only [Bool.not_true, Bool.false_or, Bool.and_eq_true, beq_iff_eq, Bool.not_eq_true'] at v4
      exact sval_f32_num k hk n u f s v1 v2 v3 hnum v4.2 v4.1 w

/-! ### spec.Ordered -/

set_option maxRecDepth 100000 in
set_option maxHeartbeats 1000000 in
theorem sOrd_no (k : ByteArray) (n u : Int) (f : Nat) (s : ByteArray) (ho : (Kd.of k.toList).vOrd = false) (w : World) :
    Calls Try.prog 13 #[.agg #[.string k, .int .i64 n, .int .u64 u, .float .f64 f, .string s]] w fun e w' => e = .returned (.tuple #[.bool false, .bool false]) ∧ Below w.heap.size w w' := by
  have h1 := fun w => vOrd_any k w
  rw [ho] at h1
  have H1 := Lib.hid h1
  clear ho h1
  go_enter Try.func13, Try.ntmps13
  go_wp2
  go_quiet ((go_at_call 30; exact quiet_of_left (H1.out _)))
  go_wp2
  go_ret2
  exact ⟨rfl, below_drewN ((Below.refl _ _).alloc (Nat.le_refl _) _) _⟩

set_option maxRecDepth 100000 in
set_option maxHeartbeats 1000000 in
theorem sOrd_blob (k : ByteArray) (n u : Int) (f : Nat) (s : ByteArray) (hk : Kd.of k.toList = .blob) (w : World) :
    Calls Try.prog 13 #[.agg #[.string k, .int .i64 n, .int .u64 u, .float .f64 f, .string s]] w fun e w' => e = .returned (.tuple #[.bool true, .bool false]) ∧ Below w.heap.size w w' := by
  have hl := Kd.of_lit _ hk (by simp)
  simp only [Kd.lit] at hl
  have h1 := fun w => vOrd_any k w
  rw [hk, show Kd.vOrd .blob = true from rfl] at h1
  have H1 := Lib.hid h1
  clear hk h1
  go_enter Try.func13, Try.ntmps13
  go_wp2
  go_quiet ((go_at_call 30; exact quiet_of_left (H1.out _)))
  go_wp2
  go_ret2
  exact ⟨rfl, below_drewN ((Below.refl _ _).alloc (Nat.le_refl _) _) _⟩

set_option maxRecDepth 100000 in
set_option maxHeartbeats 1000000 in
theorem sOrd_yes (k : ByteArray) (n u : Int) (f : Nat) (s : ByteArray) (ho : (Kd.of k.toList).vOrd = true) (hne : (k.toList == [98, 108, 111, 98]) = false)
    (HS : Hid (∀ w, Calls Try.prog 31 #[.agg #[.string k, .int .i64 n, .int .u64 u, .float .f64 f, .string s]] w fun e w' => e = .returned (.bool true) ∧ Below w.heap.size w w')) (w : World) :
    Calls Try.prog 13 #[.agg #[.string k, .int .i64 n, .int .u64 u, .float .f64 f, .string s]] w fun e w' => e = .returned (.tuple #[.bool true, .bool true]) ∧ Below w.heap.size w w' := by
  have h1 := fun w => vOrd_any k w
  rw [ho] at h1
  have H1 := Lib.hid h1
  clear ho h1
  go_enter Try.func13, Try.ntmps13
  go_wp2
  go_region_with (first | (go_at_call 30; refine (H1.out _).mono ?_; rintro e w1 ⟨rfl, rfl⟩) | (go_at_call 31; refine (HS.out _).mono ?_; rintro e w2 ⟨rfl, hb2⟩))
  all_goals
    go_wp2
    go_ret2
    exact ⟨rfl, by repeat (first | exact Below.refl _ _ | exact (Below.refl _ _).alloc (Nat.le_refl _) _ | refine Below.drew ?_ | refine up_below ?_ (Nat.le_refl _) (by assumption))⟩

end Go.Proofs.Ytamekjbdpcflfaa
