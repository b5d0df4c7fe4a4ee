/-
  ql.ZZType at the thirteen types, laws.kinds, impl.Fits. PRINTED BY wip/tpl/gen_fit.py.
-/
import Derived.Test.YtamekjbdpcflfaaOvf
namespace Go.Proofs.Ytamekjbdpcflfaa
open Go.RowKit

/-- The number of a type in the program. -/
def Kd.ty : Kd → Int
  | .blob => 66
  | .bool => 98
  | .f32 => 102
  | .f64 => 103
  | .str => 115
  | .int q => ikTy q
  | _ => 0
/-- A column's type. -/
def Kd.col : Kd → Bool
  | .blob | .bool | .f32 | .f64 | .str | .int _ => true
  | _ => false

set_option maxHeartbeats 1000000 in
theorem zzType_any (k : ByteArray) (h : (Kd.of k.toList).col = true) (w : World) :
    Calls Try.prog 35 #[.string k] w fun e w' => e = .returned (.int .i64 (Kd.of k.toList).ty) ∧ w = w' := by
  cases hk : Kd.of k.toList
  case int q =>
    have hl := Kd.of_lit _ hk (by simp)
    clear hk h
    cases q <;> (simp only [Kd.lit] at hl; go_enter Try.func35, Try.ntmps35; go_wp2; go_ret; exact ⟨rfl, rfl⟩)
  case blob =>
    have hl := Kd.of_lit _ hk (by simp)
    clear hk h
    simp only [Kd.lit] at hl
    go_enter Try.func35, Try.ntmps35
    go_wp2
    go_ret
    exact ⟨rfl, rfl⟩
  case bool =>
    have hl := Kd.of_lit _ hk (by simp)
    clear hk h
    simp only [Kd.lit] at hl
    go_enter Try.func35, Try.ntmps35
    go_wp2
    go_ret
    exact ⟨rfl, rfl⟩
  case f32 =>
    have hl := Kd.of_lit _ hk (by simp)
    clear hk h
    simp only [Kd.lit] at hl
    go_enter Try.func35, Try.ntmps35
    go_wp2
    go_ret
    exact ⟨rfl, rfl⟩
  case f64 =>
    have hl := Kd.of_lit _ hk (by simp)
    clear hk h
    simp only [Kd.lit] at hl
    go_enter Try.func35, Try.ntmps35
    go_wp2
    go_ret
    exact ⟨rfl, rfl⟩
  case str =>
    have hl := Kd.of_lit _ hk (by simp)
    clear hk h
    simp only [Kd.lit] at hl
    go_enter Try.func35, Try.ntmps35
    go_wp2
    go_ret
    exact ⟨rfl, rfl⟩
  all_goals (rw [hk] at h; cases h)

/-- The names of the types of columns. -/
def kname : Nat → ByteArray
  | 0 => ⟨#[98, 111, 111, 108]⟩
  | 1 => ⟨#[105, 110, 116, 56]⟩
  | 2 => ⟨#[105, 110, 116, 49, 54]⟩
  | 3 => ⟨#[105, 110, 116, 51, 50]⟩
  | 4 => ⟨#[105, 110, 116, 54, 52]⟩
  | 5 => ⟨#[117, 105, 110, 116, 56]⟩
  | 6 => ⟨#[117, 105, 110, 116, 49, 54]⟩
  | 7 => ⟨#[117, 105, 110, 116, 51, 50]⟩
  | 8 => ⟨#[117, 105, 110, 116, 54, 52]⟩
  | 9 => ⟨#[102, 108, 111, 97, 116, 51, 50]⟩
  | 10 => ⟨#[102, 108, 111, 97, 116, 54, 52]⟩
  | 11 => ⟨#[115, 116, 114, 105, 110, 103]⟩
  | 12 => ⟨#[98, 108, 111, 98]⟩
  | _ => ⟨#[]⟩

def KindsPost (w : World) (e : Ending) (w' : World) : Prop :=
  ∃ b, e = .returned (.slice (some ⟨b, 0, none⟩) 13 13) ∧ w.heap.size ≤ b ∧ b < w'.heap.size ∧ Below w.heap.size w w' ∧ ∀ j, j < 13 → w'.cell? ⟨b, j, none⟩ = some (.string (kname j))

set_option maxRecDepth 100000 in
set_option maxHeartbeats 400000 in
theorem kinds_any (w : World) : Calls Try.prog 19 #[] w (KindsPost w) := by
  go_enter Try.func19, Try.ntmps19
  go_wp2
  go_ret
  refine ⟨w.heap.size, rfl, Nat.le_refl _, by simp, (Below.refl _ _).alloc (Nat.le_refl _) _, fun j hj => ?_⟩
  rw [World.cell?_alloc_mark]
  match j, hj with
  | 0, _ => rfl
  | 1, _ => rfl
  | 2, _ => rfl
  | 3, _ => rfl
  | 4, _ => rfl
  | 5, _ => rfl
  | 6, _ => rfl
  | 7, _ => rfl
  | 8, _ => rfl
  | 9, _ => rfl
  | 10, _ => rfl
  | 11, _ => rfl
  | 12, _ => rfl

theorem zzOvf_any (v : Value) (t : Int) (w : World) (R : Ending → World → Prop) (h : Calls Try.prog 54 #[v, .int .i64 t] w (fun e w' => R e w' ∧ ∃ x, e = .returned x)) : Calls Try.prog 34 #[v, .int .i64 t] w R := by
  have H := Lib.hid h
  clear h
  go_enter Try.func34, Try.ntmps34
  go_wp2_with (go_at_call 54; refine (H.out).mono ?_; rintro e w1 ⟨hR, x, rfl⟩)
  exact hR

theorem ovfPost_ret {ok : Bool} {w : World} {e : Ending} {w' : World} (h : OvfPost ok w e w') : ∃ x, e = .returned x := by
  unfold OvfPost at h
  split at h
  · exact ⟨_, h.1⟩
  · obtain ⟨p, he, _⟩ := h
    exact ⟨_, he⟩

theorem zzOvf_iInt (q : IntKind) (n : Int) (h1 : -9223372036854775808 ≤ n) (h2 : n ≤ 9223372036854775807) (w : World) :
    Calls Try.prog 34 #[.iface 74 (.int .i64 n), .int .i64 (ikTy q)] w (OvfPost (fitI q n) w) :=
  zzOvf_any _ _ _ _ ((ovf_iInt q n h1 h2 w).mono fun _ _ h => ⟨h, ovfPost_ret h⟩)

def iRec (n : Int) : Value := .agg #[.string idealIntS, .int .i64 n, .int .u64 0, .float .f64 0, .string empS]

set_option maxRecDepth 100000 in
set_option maxHeartbeats 1000000 in
theorem fits_yes (n t : Int) (k : ByteArray)
    (HI : Hid (∀ w, Calls Try.prog 29 #[.agg #[.string idealIntS, .int .i64 n, .int .u64 0, .float .f64 0, .string empS]] w fun e w' => e = .returned (.iface 74 (.int .i64 n)) ∧ Below w.heap.size w w'))
    (HT : Hid (∀ w, Calls Try.prog 35 #[.string k] w fun e w' => e = .returned (.int .i64 t) ∧ w = w'))
    (HO : Hid (∀ w, Calls Try.prog 34 #[.iface 74 (.int .i64 n), .int .i64 t] w (fun e w' => e = .returned .nilIface ∧ Below w.heap.size w w'))) (w : World) :
    Calls Try.prog 20 #[.agg #[.string idealIntS, .int .i64 n, .int .u64 0, .float .f64 0, .string empS], .string k] w fun e w' => e = .returned (.bool true) ∧ Below w.heap.size w w' := by
  go_enter Try.func20, Try.ntmps20
  go_wp2_with (first | (go_at_call 29; refine (HI.out _).mono ?_; rintro e w1 ⟨rfl, hb1⟩) | (go_at_call 35; refine (HT.out _).mono ?_; rintro e w2 ⟨rfl, rfl⟩) | (go_at_call 34; refine (HO.out _).mono ?_; rintro e w3 ⟨rfl, hb3⟩))
  go_ret
  exact ⟨rfl, by repeat (first | exact Below.refl _ _ | exact (Below.refl _ _).alloc (Nat.le_refl _) _ | refine Below.drew ?_ | refine below_drewN ?_ _ | refine up_below ?_ (Nat.le_refl _) (by assumption))⟩

set_option maxRecDepth 100000 in
set_option maxHeartbeats 1000000 in
theorem fits_no (n t : Int) (k : ByteArray)
    (HI : Hid (∀ w, Calls Try.prog 29 #[.agg #[.string idealIntS, .int .i64 n, .int .u64 0, .float .f64 0, .string empS]] w fun e w' => e = .returned (.iface 74 (.int .i64 n)) ∧ Below w.heap.size w w'))
    (HT : Hid (∀ w, Calls Try.prog 35 #[.string k] w fun e w' => e = .returned (.int .i64 t) ∧ w = w'))
    (HO : Hid (∀ w, Calls Try.prog 34 #[.iface 74 (.int .i64 n), .int .i64 t] w (ErrPost w))) (w : World) :
    Calls Try.prog 20 #[.agg #[.string idealIntS, .int .i64 n, .int .u64 0, .float .f64 0, .string empS], .string k] w fun e w' => e = .returned (.bool false) ∧ Below w.heap.size w w' := by
  go_enter Try.func20, Try.ntmps20
  go_wp2_with (first | (go_at_call 29; refine (HI.out _).mono ?_; rintro e w1 ⟨rfl, hb1⟩) | (go_at_call 35; refine (HT.out _).mono ?_; rintro e w2 ⟨rfl, rfl⟩) | (go_at_call 34; refine (HO.out _).mono ?_; rintro e w3 ⟨p, rfl, hb3⟩))
  go_ret
  exact ⟨rfl, by repeat (first | exact Below.refl _ _ | exact (Below.refl _ _).alloc (Nat.le_refl _) _ | refine Below.drew ?_ | refine below_drewN ?_ _ | refine up_below ?_ (Nat.le_refl _) (by assumption))⟩

theorem fits_any (n : Int) (h1 : -9223372036854775808 ≤ n) (h2 : n ≤ 9223372036854775807) (k : ByteArray) (q : IntKind) (hk : Kd.of k.toList = .int q) (w : World) :
    Calls Try.prog 20 #[.agg #[.string idealIntS, .int .i64 n, .int .u64 0, .float .f64 0, .string empS], .string k] w fun e w' => e = .returned (.bool (fitI q n)) ∧ Below w.heap.size w w' := by
  have hi := fun w => in_iInt idealIntS (by decide +kernel) n 0 0 empS w
  have ht := fun w => zzType_any k (by rw [hk]; rfl) w
  rw [hk] at ht
  have ho := fun w => zzOvf_iInt q n h1 h2 w
  cases hf : fitI q n with
  | true =>
    rw [hf] at ho
    exact fits_yes n _ k hi ht ho w
  | false =>
    rw [hf] at ho
    exact fits_no n _ k hi ht ho w

end Go.Proofs.Ytamekjbdpcflfaa
