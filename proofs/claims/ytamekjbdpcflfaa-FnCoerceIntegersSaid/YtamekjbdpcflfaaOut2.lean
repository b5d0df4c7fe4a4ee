/-
  impl.out at every value; laws.same; ql.ideal, impl.Ideal, laws.ideals. PRINTED BY wip/tpl/gen_out2.py.
-/
import Derived.Test.YtamekjbdpcflfaaOut
import Derived.Deep.RegionWith
namespace Go.Proofs.Ytamekjbdpcflfaa
open Go.RowKit

theorem up_below {B : Nat} {w w' w'' : World} (h : Below B w w') (hB : B ≤ w.heap.size) (h2 : Below w'.heap.size w' w'') : Below B w w'' := h.trans (h2.mono (Nat.le_trans hB h.size))
theorem bcellD {W w1 : World} (hb : Below W.drew.heap.size W.drew w1) : (∀ b o, b < W.heap.size → w1.cell? ⟨b, o, none⟩ = W.cell? ⟨b, o, none⟩) ∧ (∀ b o, b < W.heap.size → w1.frozen? ⟨b, o, none⟩ = W.frozen? ⟨b, o, none⟩) := bcell (W := W.drew) hb
theorem conc_valid {kd : Kd} {n u : Int} {f : Nat} {s : ByteArray} (h : concB kd n u f s = true) : validB kd n u f s = true := by
  unfold concB at h
  simp only [Bool.and_eq_true] at h
  exact h.1.1

/-- What is in a value fits. -/
def SV.wf : SV → Prop
  | .int k n => k.min ≤ n ∧ n ≤ k.max
  | .iInt n => IntKind.i64.min ≤ n ∧ n ≤ IntKind.i64.max
  | .iRune n => IntKind.i32.min ≤ n ∧ n ≤ IntKind.i32.max
  | .iUint n => IntKind.u64.min ≤ n ∧ n ≤ IntKind.u64.max
  | .f32 x => x < 4294967296
  | .f64 x | .iFloat x => x < 18446744073709551616
  | _ => True

theorem wrap64_of {n : Int} (h1 : -9223372036854775808 ≤ n) (h2 : n ≤ 9223372036854775807) : wrap64 n = n := by unfold wrap64; omega

theorem out_any (x : SV) (hx : x.wf) (v : Value) (w : World) (h : Rep w x v) : Calls Try.prog 32 #[v] w (OutPost x w) := by
  cases x with
  | null => exact out_null v w h
  | bool b => exact out_bool b v w h
  | f32 x =>
    cases hn : (Ieee.single.read x).isNaN with
    | true => exact out_f32_nan x hn v w h
    | false => exact out_f32 x hn v w h
  | f64 x => exact out_f64 x v w h
  | str s => exact out_str s v w h
  | blob l => exact out_blob l v w h
  | iInt n => exact out_iInt n v w h
  | iUint n => exact out_iUint n v w h
  | iFloat x => exact out_iFloat x v w h
  | iRune n =>
    obtain ⟨h1, h2⟩ := hx
    simp only [IntKind.min, IntKind.max, IntKind.signed, IntKind.bits, if_true, Nat.reduceSub, Int.reducePow, Int.reduceSub] at h1 h2
    exact out_iRune n v w (wrap64_of (by omega) (by omega)) h
  | int q n =>
    obtain ⟨h1, h2⟩ := hx
    cases q <;> simp only [IntKind.min, IntKind.max, IntKind.signed, IntKind.bits, if_true, if_false, Bool.false_eq_true, Nat.reduceSub, Int.reducePow, Int.reduceSub] at h1 h2
    case i8 => exact out_i8 n v w (wrap64_of (by omega) (by omega)) h
    case i16 => exact out_i16 n v w (wrap64_of (by omega) (by omega)) h
    case i32 => exact out_i32 n v w (wrap64_of (by omega) (by omega)) h
    case i64 => exact out_i64 n v w h
    case u8 => exact out_u8 n v w (wrap_i (by simp [IntKind.min, IntKind.signed]; omega) (by simp [IntKind.max, IntKind.signed, IntKind.bits]; omega)) h
    case u16 => exact out_u16 n v w (wrap_i (by simp [IntKind.min, IntKind.signed]; omega) (by simp [IntKind.max, IntKind.signed, IntKind.bits]; omega)) h
    case u32 => exact out_u32 n v w (wrap_i (by simp [IntKind.min, IntKind.signed]; omega) (by simp [IntKind.max, IntKind.signed, IntKind.bits]; omega)) h
    case u64 => exact out_u64 n v w h

/-- What 'same' tells. -/
def sameB (k : ByteArray) (n u : Int) (f : Nat) (s : ByteArray) (k' : ByteArray) (n' u' : Int) (f' : Nat) (s' : ByteArray) : Bool :=
  k.toList == k'.toList && n == n' && u == u' && (bitsV f : Int) == bitsV f' && s.toList == s'.toList

set_option maxRecDepth 100000 in
set_option maxHeartbeats 1000000 in
theorem same_any (k : ByteArray) (n u : Int) (f : Nat) (s : ByteArray) (k' : ByteArray) (n' u' : Int) (f' : Nat) (s' : ByteArray) (w : World) :
    Calls Try.prog 17 #[.agg #[.string k, .int .i64 n, .int .u64 u, .float .f64 f, .string s], .agg #[.string k', .int .i64 n', .int .u64 u', .float .f64 f', .string s']] w fun e w' => e = .returned (.bool (sameB k n u f s k' n' u' f' s')) ∧ Below w.heap.size w w' := by
  cases h1 : (k.toList == k'.toList) with
  | false =>
    have hv : sameB k n u f s k' n' u' f' s' = false := by unfold sameB; rw [h1]; rfl
    rw [hv]
    clear hv
    go_enter Try.func17, Try.ntmps17
    go_wp2
    go_quiet ((go_at_call 26; exact quiet_of_left (bits_any _ _)))
    go_wp2
    go_ret
    exact ⟨rfl, below_drewN (((Below.refl _ _).alloc (Nat.le_refl _) _).alloc (by simp) _) _⟩
  | true =>
    cases h2 : (n == n') with
    | false =>
      have hv : sameB k n u f s k' n' u' f' s' = false := by unfold sameB; rw [h1]; rw [h2]; simp
      rw [hv]
      clear hv
      go_enter Try.func17, Try.ntmps17
      go_wp2
      go_quiet ((go_at_call 26; exact quiet_of_left (bits_any _ _)))
      go_wp2
      go_ret
      exact ⟨rfl, below_drewN (((Below.refl _ _).alloc (Nat.le_refl _) _).alloc (by simp) _) _⟩
    | true =>
      cases h3 : (u == u') with
      | false =>
        have hv : sameB k n u f s k' n' u' f' s' = false := by unfold sameB; rw [h1]; rw [h2]; rw [h3]; simp
        rw [hv]
        clear hv
        go_enter Try.func17, Try.ntmps17
        go_wp2
        go_quiet ((go_at_call 26; exact quiet_of_left (bits_any _ _)))
        go_wp2
        go_ret
        exact ⟨rfl, below_drewN (((Below.refl _ _).alloc (Nat.le_refl _) _).alloc (by simp) _) _⟩
      | true =>
        cases h4 : ((bitsV f : Int) == bitsV f') with
        | false =>
          have hv : sameB k n u f s k' n' u' f' s' = false := by unfold sameB; rw [h1]; rw [h2]; rw [h3]; rw [h4]; simp
          rw [hv]
          clear hv
          go_enter Try.func17, Try.ntmps17
          go_wp2
          go_quiet ((go_at_call 26; exact quiet_of_left (bits_any _ _)))
          go_wp2
          go_ret
          exact ⟨rfl, below_drewN (((Below.refl _ _).alloc (Nat.le_refl _) _).alloc (by simp) _) _⟩
        | true =>
          have hv : sameB k n u f s k' n' u' f' s' = (s.toList == s'.toList) := by unfold sameB; rw [h1]; rw [h2]; rw [h3]; rw [h4]; simp
          rw [hv]
          clear hv
          go_enter Try.func17, Try.ntmps17
          go_wp2
          go_quiet ((go_at_call 26; exact quiet_of_left (bits_any _ _)))
          go_wp2
          go_ret
          exact ⟨rfl, below_drewN (((Below.refl _ _).alloc (Nat.le_refl _) _).alloc (by simp) _) _⟩

/-- A literal's value as the value of its usual type. -/
def SV.idl : SV → SV
  | .iFloat x => .f64 x
  | .iInt n => .int .i64 n
  | .iRune n => .int .i64 n
  | .iUint n => .int .u64 n
  | x => x

def RepPost (x : SV) (w : World) (e : Ending) (w' : World) : Prop := ∃ v, e = .returned v ∧ Rep w x v ∧ w = w'

set_option maxRecDepth 100000 in
set_option maxHeartbeats 1000000 in
theorem ideal_any (x : SV) (hx : x.wf) (v : Value) (w : World) (h : Rep w x v) : Calls Try.prog 53 #[v] w (RepPost x.idl w) := by
  cases x with
  | blob l =>
    obtain ⟨a, cap, rfl, h1, h2⟩ := h
    have HR : Hid (Rep w (.blob l) (.iface 64 (.slice (some a) l.length cap))) := ⟨a, cap, rfl, h1, h2⟩
    clear h1 h2
    go_enter Try.func53, Try.ntmps53
    go_wp2
    go_ret
    exact ⟨_, rfl, HR.out, rfl⟩
  | iRune n =>
    obtain rfl := h
    obtain ⟨h1, h2⟩ := hx
    simp only [IntKind.min, IntKind.max, IntKind.signed, IntKind.bits, if_true, Nat.reduceSub, Int.reducePow, Int.reduceSub] at h1 h2
    have hw : wrap64 n = n := wrap64_of (by omega) (by omega)
    go_enter Try.func53, Try.ntmps53
    go_wp2
    go_ret
    exact ⟨_, rfl, by first | rfl | exact congrArg (fun m => Value.iface 2 (.int .i64 m)) hw, rfl⟩
  | int q n =>
    obtain rfl := h
    clear hx
    cases q <;>
    · simp only [kindT]
      go_enter Try.func53, Try.ntmps53
      go_wp2
      go_ret
      exact ⟨_, rfl, rfl, rfl⟩
  | _ =>
    obtain rfl := h
    clear hx
    go_enter Try.func53, Try.ntmps53
    go_wp2
    go_ret
    exact ⟨_, rfl, rfl, rfl⟩

theorem zzIdeal_any (x : SV) (hx : x.wf) (v : Value) (w : World) (h : Rep w x v) : Calls Try.prog 33 #[v] w (RepPost x.idl w) := by
  have HR := Lib.hid h
  clear h
  go_enter Try.func33, Try.ntmps33
  go_wp2_with (go_at_call 53; refine (ideal_any x hx v _ HR.out).mono ?_; rintro e w' ⟨v', rfl, hr', rfl⟩)
  go_ret
  exact ⟨_, rfl, hr', rfl⟩

theorem toSV_wf {kd : Kd} {n u : Int} {f : Nat} {s : ByteArray} {y : SV} (hr : Rng n u f) (hv : validB kd n u f s = true) (h : SVof kd n u f s y) : y.wf := by
  obtain ⟨r1, r2, r3, r4, r5⟩ := hr
  unfold SVof at h
  split at h
  · obtain ⟨x, rfl, _, hx⟩ := h
    exact hx
  · rename_i hne
    subst h
    cases kd with
    | int q =>
      cases q <;> simp only [validB, Bool.and_eq_true, beq_iff_eq] at hv <;> simp [toSV, SV.wf, IntKind.min, IntKind.max, IntKind.signed, IntKind.bits] <;> omega
    | iInt => simp [toSV, SV.wf, IntKind.min, IntKind.max, IntKind.signed, IntKind.bits]; omega
    | iRune => simp only [validB, Bool.and_eq_true, beq_iff_eq] at hv; simp [toSV, SV.wf, IntKind.min, IntKind.max, IntKind.signed, IntKind.bits]; omega
    | iUint => simp [toSV, SV.wf, IntKind.min, IntKind.max, IntKind.signed, IntKind.bits]; omega
    | f32 =>
      simp only [toSV, SV.wf]
      unfold Flt.down
      exact Nat.lt_of_lt_of_le (Ieee.Format.write_lt _ _) (by decide)
    | f64 => exact r5
    | iFloat => exact r5
    | _ => trivial

/-- impl.Ideal: what comes out is the literal's usual value. -/
def IdealPost (kd : Kd) (n u : Int) (f : Nat) (s : ByteArray) (w : World) (e : Ending) (w' : World) : Prop :=
  ∃ y g, SVof kd n u f s y ∧ FOut y.idl g ∧ e = .returned (.agg #[.string y.idl.nm, .int .i64 y.idl.oN, .int .u64 y.idl.oU, .float .f64 g, .string y.idl.oS]) ∧ Below w.heap.size w w'

theorem idl_wf {x : SV} (h : x.wf) : x.idl.wf := by
  cases x with
  | iRune n =>
    obtain ⟨h1, h2⟩ := h
    simp only [IntKind.min, IntKind.max, IntKind.signed, IntKind.bits, if_true, Nat.reduceSub, Int.reducePow, Int.reduceSub] at h1 h2
    simp [SV.idl, SV.wf, IntKind.min, IntKind.max, IntKind.signed, IntKind.bits]
    omega
  | _ => exact h

set_option maxRecDepth 100000 in
set_option maxHeartbeats 1000000 in
theorem implIdeal_any (k : ByteArray) (n u : Int) (f : Nat) (s : ByteArray) (hr : Rng n u f) (hv : validB (Kd.of k.toList) n u f s = true) (w : World) :
    Calls Try.prog 18 #[.agg #[.string k, .int .i64 n, .int .u64 u, .float .f64 f, .string s]] w (IdealPost (Kd.of k.toList) n u f s w) := by
  have HI := Lib.hid (fun w => in_any k n u f s hr hv w)
  have HW := Lib.hid (fun y (h : SVof (Kd.of k.toList) n u f s y) => toSV_wf hr hv h)
  clear hr hv
  go_enter Try.func18, Try.ntmps18
  go_wp2_with (first | (go_at_call 29; refine (HI.out _).mono ?_; rintro e w1 ⟨v, y, rfl, hrep, hb1, hsv⟩; obtain ⟨hc1, hf1⟩ := bcell hb1; have hz1 : w.heap.size + 1 < w1.heap.size := (by have := hb1.size; (try simp at this); omega)) | (go_at_call 33; refine (zzIdeal_any y (HW.out y hsv) v _ hrep).mono ?_; rintro e w2 ⟨v2, rfl, hrep2, rfl⟩) | (go_at_call 32; refine (out_any y.idl (idl_wf (HW.out y hsv)) v2 _ hrep2).mono ?_; rintro e w3 ⟨g, rfl, hb3, hfo⟩; obtain ⟨hc3, hf3⟩ := bcell hb3; have hz3 : w.heap.size + 1 < w3.heap.size := (by have := hb3.size; (try simp at this); omega)))
  exact bodyPost_ret (v := .agg #[.string y.idl.nm, .int .i64 y.idl.oN, .int .u64 y.idl.oU, .float .f64 g, .string y.idl.oS]) (by simp [results, go_sem, hc3, hc1, hz1]) rfl ⟨y, g, hsv, hfo, rfl, by repeat (first | exact (((Below.refl _ _).alloc (Nat.le_refl _) _).alloc (by simp) _) | refine Below.setCell ?_ (by simp) _ | refine up_below ?_ (Nat.le_refl _) (by assumption))⟩

def idealIntS : ByteArray := ⟨#[105, 100, 101, 97, 108, 73, 110, 116]⟩

/-- The sanity check: a literal's 1 is an int64. -/
theorem ideal_one (w : World) : Calls Try.prog 18 #[.agg #[.string idealIntS, .int .i64 1, .int .u64 0, .float .f64 0, .string empS]] w fun e w' => e = .returned (.agg #[.string int64S, .int .i64 1, .int .u64 0, .float .f64 0, .string empS]) ∧ Below w.heap.size w w' := by
  have hk : Kd.of idealIntS.toList = .iInt := by decide +kernel
  refine (implIdeal_any idealIntS 1 0 0 empS ⟨by omega, by omega, by omega, by omega, by omega⟩ (by decide +kernel) w).mono fun e w' ⟨y, g, hsv, hfo, he, hb⟩ => ?_
  rw [hk] at hsv
  unfold SVof at hsv
  rw [if_neg (fun h => by cases h.1)] at hsv
  subst hsv
  unfold FOut at hfo
  rw [if_neg (by decide)] at hfo
  subst hfo
  exact ⟨he, hb⟩

theorem same_one (w : World) : Calls Try.prog 17 #[.agg #[.string int64S, .int .i64 1, .int .u64 0, .float .f64 0, .string empS], .agg #[.string int64S, .int .i64 1, .int .u64 0, .float .f64 0, .string empS]] w fun e w' => e = .returned (.bool true) ∧ Below w.heap.size w w' := by
  have h := same_any int64S 1 0 0 empS int64S 1 0 0 empS w
  rw [show sameB int64S 1 0 0 empS int64S 1 0 0 empS = true from by decide +kernel] at h
  exact h

set_option maxRecDepth 100000 in
set_option maxHeartbeats 1000000 in
theorem ideals_any (w : World) : Calls Try.prog 16 #[] w fun e w' => e = .returned (.bool true) ∧ Below w.heap.size w w' := by
  go_enter Try.func16, Try.ntmps16
  go_wp2_with (first | (go_at_call 18; refine (ideal_one _).mono ?_; rintro e w1 ⟨rfl, hb1⟩) | (go_at_call 12; refine (num_any _ _).mono ?_; rintro e w2 ⟨rfl, hb2⟩) | (go_at_call 17; refine (same_one _).mono ?_; rintro e w3 ⟨rfl, hb3⟩))
  go_ret
  exact ⟨rfl, by repeat (first | exact Below.refl _ _ | exact (Below.refl _ _).alloc (Nat.le_refl _) _ | refine Below.drew ?_ | refine below_drewN ?_ _ | refine up_below ?_ (Nat.le_refl _) (by assumption))⟩

end Go.Proofs.Ytamekjbdpcflfaa
