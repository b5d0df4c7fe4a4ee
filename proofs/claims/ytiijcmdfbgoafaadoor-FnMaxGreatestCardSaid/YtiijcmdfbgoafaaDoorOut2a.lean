/-
  impl.out at every value; laws.same; ql.ideal, impl.Ideal, laws.ideals. PRINTED BY wip/tpl/gen_out2.py.
-/
import Derived.Test.YtiijcmdfbgoafaaDoorOut
import Derived.Deep.RegionWith
namespace Go.Proofs.YtiijcmdfbgoafaaDoor
open Go.RowKit


/-- What is in a value fits. -/
def SV.wf : SV → Prop
  | .int k n => k.min ≤ n ∧ n ≤ k.max
  | .iInt n => IntKind.i64.min ≤ n ∧ n ≤ IntKind.i64.max
  | .iRune n => IntKind.i32.min ≤ n ∧ n ≤ IntKind.i32.max
  | .iUint n => IntKind.u64.min ≤ n ∧ n ≤ IntKind.u64.max
  | .f32 x => x < 4294967296
  | .f64 x | .iFloat x => x < 18446744073709551616
  | _ => True

theorem wrap64_of {n : Int} (h1 : -9223372036854775808 ≤ n) (h2 : n ≤ 9223372036854775807) : wrap64 n = n := by unfold wrap64; omega

theorem out_any (x : SV) (hx : x.wf) (v : Value) (w : World) (h : Rep w x v) : Calls Tryd.prog 41 #[v] w (OutPost x w) := by
  cases x with
  | null => exact out_null v w h
  | bool b => exact out_bool b v w h
  | f32 x =>
    cases hn : (Ieee.single.read x).isNaN with
    | true => exact out_f32_nan x hn v w h
    | false => exact out_f32 x hn v w h
  | f64 x => exact out_f64 x v w h
  | str s => exact out_str s v w h
  | blob l => exact out_blob l v w h
  | iInt n => exact out_iInt n v w h
  | iUint n => exact out_iUint n v w h
  | iFloat x => exact out_iFloat x v w h
  | iRune n =>
    obtain ⟨h1, h2⟩ := hx
    simp only [IntKind.min, IntKind.max, IntKind.signed, IntKind.bits, if_true, Nat.reduceSub, Int.reducePow, Int.reduceSub] at h1 h2
    exact out_iRune n v w (wrap64_of (by omega) (by omega)) h
  | int q n =>
    obtain ⟨h1, h2⟩ := hx
    cases q <;> simp only [IntKind.min, IntKind.max, IntKind.signed, IntKind.bits, if_true, if_false, Bool.false_eq_true, Nat.reduceSub, Int.reducePow, Int.reduceSub] at h1 h2
    case i8 => exact out_i8 n v w (wrap64_of (by omega) (by omega)) h
    case i16 => exact out_i16 n v w (wrap64_of (by omega) (by omega)) h
    case i32 => exact out_i32 n v w (wrap64_of (by omega) (by omega)) h
    case i64 => exact out_i64 n v w h
    case u8 => exact out_u8 n v w (wrap_i (by simp [IntKind.min, IntKind.signed]; omega) (by simp [IntKind.max, IntKind.signed, IntKind.bits]; omega)) h
    case u16 => exact out_u16 n v w (wrap_i (by simp [IntKind.min, IntKind.signed]; omega) (by simp [IntKind.max, IntKind.signed, IntKind.bits]; omega)) h
    case u32 => exact out_u32 n v w (wrap_i (by simp [IntKind.min, IntKind.signed]; omega) (by simp [IntKind.max, IntKind.signed, IntKind.bits]; omega)) h
    case u64 => exact out_u64 n v w h

/-- What 'same' tells. -/
def sameB (k : ByteArray) (n u : Int) (f : Nat) (s : ByteArray) (k' : ByteArray) (n' u' : Int) (f' : Nat) (s' : ByteArray) : Bool :=
  k.toList == k'.toList && n == n' && u == u' && (bitsV f : Int) == bitsV f' && s.toList == s'.toList

set_option maxRecDepth 100000 in
set_option maxHeartbeats 1000000 in
theorem same_any (k : ByteArray) (n u : Int) (f : Nat) (s : ByteArray) (k' : ByteArray) (n' u' : Int) (f' : Nat) (s' : ByteArray) (w : World) :
    Calls Tryd.prog 19 #[.agg #[.string k, .int .i64 n, .int .u64 u, .float .f64 f, .string s], .agg #[.string k', .int .i64 n', .int .u64 u', .float .f64 f', .string s']] w fun e w' => e = .returned (.bool (sameB k n u f s k' n' u' f' s')) ∧ Below w.heap.size w w' := by
  cases h1 : (k.toList == k'.toList) with
  | false =>
    have hv : sameB k n u f s k' n' u' f' s' = false := by unfold sameB; rw [h1]; rfl
    rw [hv]
    clear hv
    go_enter Tryd.func19, Tryd.ntmps19
    go_wp2
    go_quiet ((go_at_call 16; exact quiet_of_left (bits_any _ _)))
    go_wp2
    go_ret
    exact ⟨rfl, below_drewN (((Below.refl _ _).alloc (Nat.le_refl _) _).alloc (by simp) _) _⟩
  | true =>
    cases h2 : (n == n') with
    | false =>
      have hv : sameB k n u f s k' n' u' f' s' = false := by unfold sameB; rw [h1]; rw [h2]; simp
      rw [hv]
      clear hv
      go_enter Tryd.func19, Tryd.ntmps19
      go_wp2
      go_quiet ((go_at_call 16; exact quiet_of_left (bits_any _ _)))
      go_wp2
      go_ret
      exact ⟨rfl, below_drewN (((Below.refl _ _).alloc (Nat.le_refl _) _).alloc (by simp) _) _⟩
    | true =>
      cases h3 : (u == u') with
      | false =>
        have hv : sameB k n u f s k' n' u' f' s' = false := by unfold sameB; rw [h1]; rw [h2]; rw [h3]; simp
        rw [hv]
        clear hv
        go_enter Tryd.func19, Tryd.ntmps19
        go_wp2
        go_quiet ((go_at_call 16; exact quiet_of_left (bits_any _ _)))
        go_wp2
        go_ret
        exact ⟨rfl, below_drewN (((Below.refl _ _).alloc (Nat.le_refl _) _).alloc (by simp) _) _⟩
      | true =>
        cases h4 : ((bitsV f : Int) == bitsV f') with
        | false =>
          have hv : sameB k n u f s k' n' u' f' s' = false := by unfold sameB; rw [h1]; rw [h2]; rw [h3]; rw [h4]; simp
          rw [hv]
          clear hv
          go_enter Tryd.func19, Tryd.ntmps19
          go_wp2
          go_quiet ((go_at_call 16; exact quiet_of_left (bits_any _ _)))
          go_wp2
          go_ret
          exact ⟨rfl, below_drewN (((Below.refl _ _).alloc (Nat.le_refl _) _).alloc (by simp) _) _⟩
        | true =>
          have hv : sameB k n u f s k' n' u' f' s' = (s.toList == s'.toList) := by unfold sameB; rw [h1]; rw [h2]; rw [h3]; rw [h4]; simp
          rw [hv]
          clear hv
          go_enter Tryd.func19, Tryd.ntmps19
          go_wp2
          go_quiet ((go_at_call 16; exact quiet_of_left (bits_any _ _)))
          go_wp2
          go_ret
          exact ⟨rfl, below_drewN (((Below.refl _ _).alloc (Nat.le_refl _) _).alloc (by simp) _) _⟩

theorem toSV_wf {kd : Kd} {n u : Int} {f : Nat} {s : ByteArray} {y : SV} (hr : Rng n u f) (hv : validB kd n u f s = true) (h : SVof kd n u f s y) : y.wf := by
  obtain ⟨r1, r2, r3, r4, r5⟩ := hr
  unfold SVof at h
  split at h
  · obtain ⟨x, rfl, _, hx⟩ := h
    exact hx
  · rename_i hne
    subst h
    cases kd with
    | int q =>
      cases q <;> simp only [validB, Bool.and_eq_true, beq_iff_eq] at hv <;> simp [toSV, SV.wf, IntKind.min, IntKind.max, IntKind.signed, IntKind.bits] <;> omega
    | iInt => simp [toSV, SV.wf, IntKind.min, IntKind.max, IntKind.signed, IntKind.bits]; omega
    | iRune => simp only [validB, Bool.and_eq_true, beq_iff_eq] at hv; simp [toSV, SV.wf, IntKind.min, IntKind.max, IntKind.signed, IntKind.bits]; omega
    | iUint => simp [toSV, SV.wf, IntKind.min, IntKind.max, IntKind.signed, IntKind.bits]; omega
    | f32 =>
      simp only [toSV, SV.wf]
      unfold Flt.down
      exact Nat.lt_of_lt_of_le (Ieee.Format.write_lt _ _) (by decide)
    | f64 => exact r5
    | iFloat => exact r5
    | _ => trivial

def idealIntS : ByteArray := ⟨#[105, 100, 101, 97, 108, 73, 110, 116]⟩

end Go.Proofs.YtiijcmdfbgoafaaDoor
