/-
  The reference's order of two values, joined; of two lists.
-/
import Derived.Test.YtiijcmdfbgoafaaSc4
namespace Go.Proofs.Ytiijcmdfbgoafaa
open Go.RowKit

def scCmp (x y : VV) : Int :=
  if (Kd.of x.k.toList).vSgn = true then ord2 (decide (x.n < y.n)) (decide (y.n < x.n))
  else if (Kd.of x.k.toList).vUns = true then ord2 (decide (x.u < y.u)) (decide (y.u < x.u))
  else if (Kd.of x.k.toList).vFlt = true then ord2 (FloatKind.f64.format.order x.f y.f == some .lt) (FloatKind.f64.format.order x.f y.f == some .gt)
  else bytesOrd x.s.data.toList y.s.data.toList

def VV.nul (x : VV) : Bool := x.k.toList.isEmpty
def scOk (x y : VV) : Bool := x.k.toList == y.k.toList && (Kd.of x.k.toList).vOrd && numB x.f && numB y.f

/-- What the reference says of two values. -/
def scVal (x y : VV) : Int × Bool :=
  if x.nul = true then (if y.nul = true then (0, true) else (-1, true))
  else if y.nul = true then (1, true) else if scOk x y = true then (scCmp x y, true) else (0, false)

theorem vCmp_any (x y : VV) (hx : x.s.size ≤ 65536) (hy : y.s.size ≤ 65536) (w : World) :
    Calls Try.prog 44 #[.agg #[.string x.k, .int .i64 x.n, .int .u64 x.u, .float .f64 x.f, .string x.s], .agg #[.string y.k, .int .i64 y.n, .int .u64 y.u, .float .f64 y.f, .string y.s]] w fun e w' => e = .returned (.int .i64 (scCmp x y)) ∧ Below w.heap.size w w' := by
  have h1 := fun w => vSgn_any x.k w
  have h2 := fun w => vUns_any x.k w
  have h3 := fun w => vFlt_any x.k w
  unfold scCmp
  cases e1 : (Kd.of x.k.toList).vSgn with
  | true =>
    rw [e1] at h1
    exact vCmp_s _ _ _ _ _ _ _ _ _ _ h1 w
  | false =>
  rw [e1] at h1
  cases e2 : (Kd.of x.k.toList).vUns with
  | true =>
    rw [e2] at h2
    exact vCmp_u _ _ _ _ _ _ _ _ _ _ h1 h2 w
  | false =>
  rw [e2] at h2
  cases e3 : (Kd.of x.k.toList).vFlt with
  | true =>
    rw [e3] at h3
    exact vCmp_f _ _ _ _ _ _ _ _ _ _ h1 h2 h3 w
  | false =>
  rw [e3] at h3
  exact vCmp_t _ _ _ _ _ _ _ _ _ _ h1 h2 h3 hx hy w

theorem vOrdB (k : ByteArray) (w : World) : Calls Try.prog 42 #[.string k] w fun e w' => e = .returned (.bool (Kd.of k.toList).vOrd) ∧ Below w.heap.size w w' :=
  (vOrd_any k w).mono fun _ _ h => ⟨h.1, by rw [← h.2]; exact Below.refl _ _⟩

theorem sCol_any (x y : VV) (hx : x.s.size ≤ 65536) (hy : y.s.size ≤ 65536) (w : World) :
    Calls Try.prog 28 #[.agg #[.string x.k, .int .i64 x.n, .int .u64 x.u, .float .f64 x.f, .string x.s], .agg #[.string y.k, .int .i64 y.n, .int .u64 y.u, .float .f64 y.f, .string y.s]] w fun e w' => e = .returned (.tuple #[.int .i64 (scVal x y).1, .bool (scVal x y).2]) ∧ Below w.heap.size w w' := by
  have ha := fun w => vNull_any x.k x.n x.u x.f x.s w
  have hb := fun w => vNull_any y.k y.n y.u y.f y.s w
  have ho := fun w => vOrdB x.k w
  have hna := fun w => vNaN_any x.k x.n x.u x.f x.s w
  have hnb := fun w => vNaN_any y.k y.n y.u y.f y.s w
  have hv := fun w => vCmp_any x y hx hy w
  unfold scVal scOk VV.nul
  cases e1 : x.k.toList.isEmpty <;> rw [e1] at ha <;> cases e2 : y.k.toList.isEmpty <;> rw [e2] at hb
  · cases e3 : (x.k.toList == y.k.toList) with
    | false => exact sCol_kd _ _ _ _ _ _ _ _ _ _ ha hb e3 w
    | true =>
    cases e4 : (Kd.of x.k.toList).vOrd with
    | false =>
      rw [e4] at ho
      exact sCol_od _ _ _ _ _ _ _ _ _ _ ha hb e3 ho w
    | true =>
    rw [e4] at ho
    cases e5 : numB x.f with
    | false =>
      rw [e5] at hna
      exact sCol_na _ _ _ _ _ _ _ _ _ _ ha hb e3 ho hna w
    | true =>
    rw [e5] at hna
    cases e6 : numB y.f with
    | false =>
      rw [e6] at hnb
      exact sCol_nb _ _ _ _ _ _ _ _ _ _ ha hb e3 ho hna hnb w
    | true =>
    rw [e6] at hnb
    exact sCol_ok _ _ _ _ _ _ _ _ _ _ _ ha hb e3 ho hna hnb hv w
  · exact sCol_nr _ _ _ _ _ _ _ _ _ _ ha hb w
  · exact sCol_nl _ _ _ _ _ _ _ _ _ _ ha hb w
  · exact sCol_nn _ _ _ _ _ _ _ _ _ _ ha hb w

/-- What the reference says of two lists. -/
def scRows : List VV → List VV → Int × Bool
  | x :: l, y :: m => if (scVal x y).2 = false then (0, false) else if (scVal x y).1 = 0 then scRows l m else ((scVal x y).1, true)
  | _, _ => (0, true)

theorem scRows_at : ∀ (k : Nat) (l m : List VV) (x y : VV), (∀ (j : Nat) (x y : VV), j < k → l[j]? = some x → m[j]? = some y → scVal x y = (0, true)) → l[k]? = some x → m[k]? = some y → scVal x y ≠ (0, true) → scRows l m = if (scVal x y).2 = false then (0, false) else ((scVal x y).1, true)
  | _, [], _, _, _, _, hx, _, _ => by simp at hx
  | _, _ :: _, [], _, _, _, _, hy, _ => by simp at hy
  | 0, a :: l, b :: m, x, y, _, hx, hy, hne => by
    obtain rfl : a = x := by simpa using hx
    obtain rfl : b = y := by simpa using hy
    rw [scRows]
    cases h2 : (scVal a b).2 with
    | false => simp
    | true =>
      have h1 : (scVal a b).1 ≠ 0 := fun h => hne (Prod.ext h h2)
      simp [h1]
  | k + 1, a :: l, b :: m, x, y, hz, hx, hy, hne => by
    rw [scRows, hz 0 a b (by omega) rfl rfl]
    simp only [Bool.true_eq_false, if_false, if_true]
    exact scRows_at k l m x y (fun j x y hj hx hy => hz (j + 1) x y (by omega) (by simpa using hx) (by simpa using hy)) (by simpa using hx) (by simpa using hy) hne

theorem scRows_end : ∀ (l m : List VV), (∀ (j : Nat) (x y : VV), l[j]? = some x → m[j]? = some y → scVal x y = (0, true)) → scRows l m = (0, true)
  | [], _, _ => rfl
  | _ :: _, [], _ => rfl
  | a :: l, b :: m, hz => by
    rw [scRows, hz 0 a b rfl rfl]
    simp only [Bool.true_eq_false, if_false, if_true]
    exact scRows_end l m (fun j x y hx hy => hz (j + 1) x y (by simpa using hx) (by simpa using hy))

end Go.Proofs.Ytiijcmdfbgoafaa
