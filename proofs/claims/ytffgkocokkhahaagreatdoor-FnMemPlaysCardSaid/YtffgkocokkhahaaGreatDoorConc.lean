/-
  laws.valid at every kind; laws.concrete; laws.num.
-/
import Derived.Test.YtffgkocokkhahaaGreatDoorValid3
import Derived.Test.YtffgkocokkhahaaGreatDoorIn
namespace Go.Proofs.YtffgkocokkhahaaGreatDoor
open Go.RowKit

/-- A float is turned to a float32 and read: never a NaN of a number. -/
theorem down_num {f : Nat} (h : (Ieee.double.read f).isNaN = false) : (Ieee.single.read (Flt.down f)).isNaN = false := by
  unfold Flt.down
  cases hd : Ieee.double.read f with
  | nan s t => rw [hd] at h; cases h
  | infinity s =>
    show (Ieee.single.read (Ieee.single.word s Ieee.single.infRung)).isNaN = false
    rw [Flt.read_inf_s]
    rfl
  | number s m p =>
    show (Ieee.single.read (Ieee.single.nearest s m p)).isNaN = false
    by_cases hm : m = 0
    · subst hm
      cases s <;> (unfold Ieee.Format.nearest; rw [if_pos rfl]; decide +kernel)
    · obtain ⟨n, kept, hn, _, _, _, _⟩ := Flt.nearest_parts Ieee.single s p hm
      rw [hn]
      rcases Nat.lt_or_ge (n * Ieee.single.binade + kept) Ieee.single.infRung with hlt | hge
      · rw [Nat.min_eq_left (Nat.le_of_lt hlt)]
        exact (Flt.key_word Ieee.single s hlt (by rw [Flt.s_lp]; omega)).2.2.1
      · rw [Nat.min_eq_right hge, Flt.read_inf_s]
        rfl

theorem valid_any (k : ByteArray) (n u : Int) (f : Nat) (s : ByteArray) (w : World) :
    Calls Tryz.prog 50 #[.agg #[.string k, .int .i64 n, .int .u64 u, .float .f64 f, .string s]] w fun e w' => e = .returned (.bool (validB (Kd.of k.toList) n u f s)) ∧ Below w.heap.size w w' := by
  cases hk : Kd.of k.toList with
  | null => exact valid_null k hk n u f s w
  | bool => exact valid_bool k hk n u f s w
  | int q =>
    cases q with
    | i8 => exact valid_i8 k hk n u f s w
    | i16 => exact valid_i16 k hk n u f s w
    | i32 => exact valid_i32 k hk n u f s w
    | i64 => exact valid_i64 k hk n u f s w
    | u8 => exact valid_u8 k hk n u f s w
    | u16 => exact valid_u16 k hk n u f s w
    | u32 => exact valid_u32 k hk n u f s w
    | u64 => exact valid_u64 k hk n u f s w
  | f64 => exact valid_f64 k hk n u f s w
  | str => exact valid_str k hk n u f s w
  | blob => exact valid_blob k hk n u f s w
  | iInt => exact valid_iInt k hk n u f s w
  | iRune => exact valid_iRune k hk n u f s w
  | iUint => exact valid_iUint k hk n u f s w
  | iFloat => exact valid_iFloat k hk n u f s w
  | other => exact valid_other k hk n u f s w
  | f32 =>
    by_cases h : (n == 0 && u == 0 && s.toList.isEmpty) = true
    · have hb : validB .f32 n u f s = single64 f := by unfold validB; rw [h]; rfl
      rw [hb]
      simp only [Bool.and_eq_true, beq_iff_eq] at h
      obtain ⟨⟨hn, hu⟩, hs⟩ := h
      cases hnan : (Ieee.double.read f).isNaN with
      | true =>
        have : single64 f = true := by unfold single64; rw [numB_nan, hnan]; rfl
        rw [this]
        exact valid_f32_nan k hk n u f s hn hu hs hnan w
      | false =>
        by_cases ho : ((Ieee.single.read (Flt.down f)).isInfinity && !(Ieee.double.read f).isInfinity) = true
        · have : single64 f = false := by unfold single64; rw [numB_nan, hnan, ho]; simp
          rw [this]
          simp only [Bool.and_eq_true, Bool.not_eq_true'] at ho
          exact valid_f32_over k hk n u f s hn hu hs ho.1 ho.2 hnan w
        · have ho' : ((Ieee.single.read (Flt.down f)).isInfinity && !(Ieee.double.read f).isInfinity) = false := by simpa using ho
          have hd := down_num hnan
          have : single64 f = ((bitsV (Flt.up (Flt.down f)) : Int) == bitsV f) := by
            unfold single64
            rw [numB_nan, hnan, ho', bitsV_num hnan, bitsV_num (Flt.up_key hd).2.2.1]
            simp only [Bool.not_false, Bool.not_true, Bool.false_or, Bool.and_true]
            rw [Bool.eq_iff_iff]
            simp only [beq_iff_eq]
            omega
          rw [this]
          exact valid_f32_num k hk n u f s hn hu hs ho' hnan hd w
    · have hb : validB .f32 n u f s = false := by unfold validB; rw [Bool.eq_false_iff.2 h]; rfl
      rw [hb]
      exact valid_f32_not k hk n u f s (Bool.eq_false_iff.2 h) w

/-- What 'concrete' tells. -/
def concB (kd : Kd) (n u : Int) (f : Nat) (s : ByteArray) : Bool := validB kd n u f s && !kd.ideal && numB f

set_option maxRecDepth 100000 in
set_option maxHeartbeats 1000000 in
theorem concrete_any (k : ByteArray) (n u : Int) (f : Nat) (s : ByteArray) (w : World) :
    Calls Tryz.prog 29 #[.agg #[.string k, .int .i64 n, .int .u64 u, .float .f64 f, .string s]] w fun e w' => e = .returned (.bool (concB (Kd.of k.toList) n u f s)) ∧ Below w.heap.size w w' := by
  have hv := fun w => valid_any k n u f s w
  have hi := fun w => isIdeal_any k w
  cases h1 : validB (Kd.of k.toList) n u f s with
  | false =>
    have hc : concB (Kd.of k.toList) n u f s = false := by unfold concB; rw [h1]; rfl
    rw [hc]
    rw [h1] at hv
    have HV := Lib.hid hv
    clear hv hi hc h1
    go_enter Tryz.func29, Tryz.ntmps29
    go_wp2_with (go_at_call 50; refine (HV.out _).mono ?_; rintro e w1 ⟨rfl, hb1⟩)
    go_ret
    exact ⟨rfl, ((Below.refl _ _).alloc (Nat.le_refl _) _).trans (hb1.mono (by simp))⟩
  | true =>
    rw [h1] at hv
    cases h2 : (Kd.of k.toList).ideal with
    | true =>
      have hc : concB (Kd.of k.toList) n u f s = false := by unfold concB; rw [h1, h2]; rfl
      rw [hc]
      rw [h2] at hi
      have HV := Lib.hid hv
      have HI := Lib.hid hi
      clear hv hi hc h1 h2
      go_enter Tryz.func29, Tryz.ntmps29
      go_wp2_with (first | (go_at_call 50; refine (HV.out _).mono ?_; rintro e w1 ⟨rfl, hb1⟩; obtain ⟨hc1, hf1⟩ := bcell hb1) | (go_at_call 51; refine (HI.out _).mono ?_; rintro e w2 ⟨rfl, rfl⟩))
      go_ret
      exact ⟨rfl, ((Below.refl _ _).alloc (Nat.le_refl _) _).trans (hb1.mono (by simp))⟩
    | false =>
      have hc : concB (Kd.of k.toList) n u f s = (FloatKind.f64.format.order f f == some .eq) := by unfold concB; rw [h1, h2]; rfl
      rw [hc]
      rw [h2] at hi
      have HV := Lib.hid hv
      have HI := Lib.hid hi
      clear hv hi hc h1 h2
      go_enter Tryz.func29, Tryz.ntmps29
      go_wp2_with (first | (go_at_call 50; refine (HV.out _).mono ?_; rintro e w1 ⟨rfl, hb1⟩; obtain ⟨hc1, hf1⟩ := bcell hb1) | (go_at_call 51; refine (HI.out _).mono ?_; rintro e w2 ⟨rfl, rfl⟩))
      go_ret
      exact ⟨rfl, ((Below.refl _ _).alloc (Nat.le_refl _) _).trans (hb1.mono (by simp))⟩

/-- The bytes of "int64". -/
def int64S : ByteArray := ⟨#[105, 110, 116, 54, 52]⟩
def empS : ByteArray := ⟨#[]⟩

set_option maxHeartbeats 400000 in
theorem num_any (n : Int) (w : World) :
    Calls Tryz.prog 20 #[.int .i64 n] w fun e w' => e = .returned (.agg #[.string int64S, .int .i64 n, .int .u64 0, .float .f64 0, .string empS]) ∧ Below w.heap.size w w' := by
  go_enter Tryz.func20, Tryz.ntmps20
  go_wp2
  exact bodyPost_ret (v := .agg #[.string int64S, .int .i64 n, .int .u64 0, .float .f64 0, .string empS]) (by simp [results, Tryz.results20, go_sem, int64S, empS]) rfl ⟨rfl, (Below.refl _ _).alloc (Nat.le_refl _) _⟩

theorem up_below {B : Nat} {w w' w'' : World} (h : Below B w w') (hB : B ≤ w.heap.size) (h2 : Below w'.heap.size w' w'') : Below B w w'' := h.trans (h2.mono (Nat.le_trans hB h.size))
theorem bcellD {W w1 : World} (hb : Below W.drew.heap.size W.drew w1) : (∀ b o, b < W.heap.size → w1.cell? ⟨b, o, none⟩ = W.cell? ⟨b, o, none⟩) ∧ (∀ b o, b < W.heap.size → w1.frozen? ⟨b, o, none⟩ = W.frozen? ⟨b, o, none⟩) := bcell (W := W.drew) hb
theorem conc_valid {kd : Kd} {n u : Int} {f : Nat} {s : ByteArray} (h : concB kd n u f s = true) : validB kd n u f s = true := by
  unfold concB at h
  simp only [Bool.and_eq_true] at h
  exact h.1.1

end Go.Proofs.YtffgkocokkhahaaGreatDoor
