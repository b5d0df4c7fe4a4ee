/-
  isOrderedType and what calls it.
-/
import Derived.Test.YtamekjbdpcflfaaConc
import Derived.Test.YtamekjbdpcflfaaAs
import Derived.Deep.RegionWith
namespace Go.Proofs.Ytamekjbdpcflfaa
open Go.RowKit

def SV.ord : SV → Bool
  | .null | .bool _ | .blob _ => false
  | _ => true

set_option maxRecDepth 100000 in
set_option maxHeartbeats 1000000 in
theorem isOrd_any (x : SV) (v : Value) (w : World) (h : Rep w x v) :
    Calls Try.prog 39 #[v] w fun e w' => e = .returned (.tuple #[v, .bool x.ord, .nilIface]) ∧ w = w' := by
  cases x with
  | blob l =>
    obtain ⟨a, cap, rfl, h1, h2⟩ := h
    clear h1 h2
    go_enter Try.func39, Try.ntmps39
    go_wp2
    go_ret3
    exact ⟨rfl, rfl⟩
  | int q n =>
    obtain rfl := h
    cases q <;>
    · simp only [kindT]
      go_enter Try.func39, Try.ntmps39
      go_wp2
      go_ret3
      exact ⟨rfl, rfl⟩
  | _ =>
    obtain rfl := h
    go_enter Try.func39, Try.ntmps39
    go_wp2
    go_ret3
    exact ⟨rfl, rfl⟩

set_option maxHeartbeats 400000 in
theorem zzOrd_any (x : SV) (v : Value) (w : World) (h : Rep w x v) :
    Calls Try.prog 28 #[v] w fun e w' => e = .returned (.bool x.ord) ∧ w = w' := by
  have HR := Lib.hid h
  clear h
  go_enter Try.func28, Try.ntmps28
  go_wp2_with (go_at_call 39; refine (isOrd_any x v _ HR.out).mono ?_; rintro e w' ⟨rfl, rfl⟩)
  go_ret
  exact ⟨rfl, rfl⟩

def Kd.ord : Kd → Bool
  | .null | .bool | .blob | .other => false
  | _ => true

theorem ord_of {kd : Kd} {n u : Int} {f : Nat} {s : ByteArray} {y : SV} (h : SVof kd n u f s y) : y.ord = kd.ord := by
  unfold SVof at h
  split at h
  · rename_i h'
    obtain ⟨rfl, _⟩ := h'
    obtain ⟨x, rfl, _⟩ := h
    rfl
  · subst h
    cases kd <;> rfl

set_option maxHeartbeats 400000 in
theorem ordered_any (k : ByteArray) (n u : Int) (f : Nat) (s : ByteArray) (hr : Rng n u f) (hv : validB (Kd.of k.toList) n u f s = true) (w : World) :
    Calls Try.prog 11 #[.agg #[.string k, .int .i64 n, .int .u64 u, .float .f64 f, .string s]] w fun e w' => e = .returned (.bool (Kd.of k.toList).ord) ∧ Below w.heap.size w w' := by
  have HI := Lib.hid (fun w => in_any k n u f s hr hv w)
  clear hr hv
  go_enter Try.func11, Try.ntmps11
  go_wp2_with (first | (go_at_call 29; refine (HI.out _).mono ?_; rintro e w1 ⟨v, y, rfl, hrep, hb1, hsv⟩) | (go_at_call 28; refine (zzOrd_any y v _ hrep).mono ?_; rintro e w2 ⟨rfl, rfl⟩))
  go_ret
  exact ⟨congrArg (fun b => Ending.returned (Value.bool b)) (ord_of hsv), ((Below.refl _ _).alloc (Nat.le_refl _) _).trans (hb1.mono (by simp))⟩

/-- The sanity check: 1 is ordered. -/
theorem ordered_one (w : World) :
    Calls Try.prog 11 #[.agg #[.string int64S, .int .i64 1, .int .u64 0, .float .f64 0, .string empS]] w fun e w' => e = .returned (.bool true) ∧ Below w.heap.size w w' := by
  have h := ordered_any int64S 1 0 0 empS ⟨by omega, by omega, by omega, by omega, by omega⟩ (by decide +kernel) w
  rw [show Kd.of int64S.toList = .int .i64 from by decide +kernel] at h
  exact h

end Go.Proofs.Ytamekjbdpcflfaa
