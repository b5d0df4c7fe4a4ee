/-
  idealIntOverflow: whether a literal's integer fits a type. PRINTED BY wip/tpl/gen_ovf.py.
-/
import Derived.Test.YtamekjbdpcflfaaOut2
namespace Go.Proofs.Ytamekjbdpcflfaa
open Go.RowKit

/-- An error of package errors is returned; what was there is as it was. -/
def ErrPost (w : World) (e : Ending) (w' : World) : Prop := ∃ p, e = .returned (.iface 81 (.pointer (some p))) ∧ Below w.heap.size w w'

set_option maxHeartbeats 400000 in
theorem errNew_any (s : ByteArray) (w : World) : Calls Try.prog 60 #[.string s] w (ErrPost w) := by
  go_enter Try.func60, Try.ntmps60
  go_wp2
  go_ret
  exact ⟨_, rfl, by repeat (first | exact Below.refl _ _ | exact (Below.refl _ _).alloc (Nat.le_refl _) _ | refine Below.drew ?_ | refine Below.setCell ?_ (by first | omega | (simp; omega) | simp) _ | refine Below.alloc ?_ (by first | omega | (simp; omega) | simp) _ | refine below_drewN ?_ _ | refine up_below ?_ (Nat.le_refl _) (by assumption))⟩

set_option maxHeartbeats 400000 in
theorem overflow_any (v : Value) (t : Int) (w : World) : Calls Try.prog 58 #[v, .int .i64 t] w (ErrPost w) := by
  go_enter Try.func58, Try.ntmps58
  go_wp2_with (go_at_call 60; refine (errNew_any _ _).mono ?_; rintro e w1 ⟨p, rfl, hb1⟩)
  go_ret
  exact ⟨_, rfl, by repeat (first | exact Below.refl _ _ | exact (Below.refl _ _).alloc (Nat.le_refl _) _ | refine Below.drew ?_ | refine below_drewN ?_ _ | refine up_below ?_ (Nat.le_refl _) (by assumption))⟩

/-- The number of a type of integers in the program. -/
def ikTy : IntKind → Int
  | .i8 => 105
  | .i16 => 106
  | .i32 => 107
  | .i64 => 108
  | .u8 => 117
  | .u16 => 118
  | .u32 => 119
  | .u64 => 120

theorem q_i8 : IntKind.min .i8 = -128 ∧ IntKind.max .i8 = 127 := by decide
theorem q_i16 : IntKind.min .i16 = -32768 ∧ IntKind.max .i16 = 32767 := by decide
theorem q_i32 : IntKind.min .i32 = -2147483648 ∧ IntKind.max .i32 = 2147483647 := by decide
theorem q_i64 : IntKind.min .i64 = -9223372036854775808 ∧ IntKind.max .i64 = 9223372036854775807 := by decide
theorem q_u8 : IntKind.min .u8 = 0 ∧ IntKind.max .u8 = 255 := by decide
theorem q_u16 : IntKind.min .u16 = 0 ∧ IntKind.max .u16 = 65535 := by decide
theorem q_u32 : IntKind.min .u32 = 0 ∧ IntKind.max .u32 = 4294967295 := by decide
theorem q_u64 : IntKind.min .u64 = 0 ∧ IntKind.max .u64 = 18446744073709551615 := by decide

set_option maxRecDepth 100000 in
set_option maxHeartbeats 1000000 in
theorem ovf_iInt_i8_ok (n : Int) (h1 : -128 ≤ n) (h2 : n ≤ 127) (w : World) :
    Calls Try.prog 54 #[.iface 74 (.int .i64 n), .int .i64 105] w fun e w' => e = .returned .nilIface ∧ w = w' := by
  go_enter Try.func54, Try.ntmps54
  go_wp2
  go_ret
  exact ⟨rfl, rfl⟩

set_option maxRecDepth 100000 in
set_option maxHeartbeats 1000000 in
theorem ovf_iInt_i8_lo (n : Int) (h1 : n < -128) (w : World) :
    Calls Try.prog 54 #[.iface 74 (.int .i64 n), .int .i64 105] w (ErrPost w) := by
  go_enter Try.func54, Try.ntmps54
  go_wp2_with (go_at_call 58; refine (overflow_any _ _ _).mono ?_; rintro e w1 ⟨p, rfl, hb1⟩)
  go_ret
  exact ⟨_, rfl, hb1⟩

set_option maxRecDepth 100000 in
set_option maxHeartbeats 1000000 in
theorem ovf_iInt_i8_hi (n : Int) (h1 : 127 < n) (h2 : -128 ≤ n) (w : World) :
    Calls Try.prog 54 #[.iface 74 (.int .i64 n), .int .i64 105] w (ErrPost w) := by
  go_enter Try.func54, Try.ntmps54
  go_wp2_with (go_at_call 58; refine (overflow_any _ _ _).mono ?_; rintro e w1 ⟨p, rfl, hb1⟩)
  go_ret
  exact ⟨_, rfl, hb1⟩

set_option maxRecDepth 100000 in
set_option maxHeartbeats 1000000 in
theorem ovf_iInt_i16_ok (n : Int) (h1 : -32768 ≤ n) (h2 : n ≤ 32767) (w : World) :
    Calls Try.prog 54 #[.iface 74 (.int .i64 n), .int .i64 106] w fun e w' => e = .returned .nilIface ∧ w = w' := by
  go_enter Try.func54, Try.ntmps54
  go_wp2
  go_ret
  exact ⟨rfl, rfl⟩

set_option maxRecDepth 100000 in
set_option maxHeartbeats 1000000 in
theorem ovf_iInt_i16_lo (n : Int) (h1 : n < -32768) (w : World) :
    Calls Try.prog 54 #[.iface 74 (.int .i64 n), .int .i64 106] w (ErrPost w) := by
  go_enter Try.func54, Try.ntmps54
  go_wp2_with (go_at_call 58; refine (overflow_any _ _ _).mono ?_; rintro e w1 ⟨p, rfl, hb1⟩)
  go_ret
  exact ⟨_, rfl, hb1⟩

set_option maxRecDepth 100000 in
set_option maxHeartbeats 1000000 in
theorem ovf_iInt_i16_hi (n : Int) (h1 : 32767 < n) (h2 : -32768 ≤ n) (w : World) :
    Calls Try.prog 54 #[.iface 74 (.int .i64 n), .int .i64 106] w (ErrPost w) := by
  go_enter Try.func54, Try.ntmps54
  go_wp2_with (go_at_call 58; refine (overflow_any _ _ _).mono ?_; rintro e w1 ⟨p, rfl, hb1⟩)
  go_ret
  exact ⟨_, rfl, hb1⟩

set_option maxRecDepth 100000 in
set_option maxHeartbeats 1000000 in
theorem ovf_iInt_i32_ok (n : Int) (h1 : -2147483648 ≤ n) (h2 : n ≤ 2147483647) (w : World) :
    Calls Try.prog 54 #[.iface 74 (.int .i64 n), .int .i64 107] w fun e w' => e = .returned .nilIface ∧ w = w' := by
  go_enter Try.func54, Try.ntmps54
  go_wp2
  go_ret
  exact ⟨rfl, rfl⟩

set_option maxRecDepth 100000 in
set_option maxHeartbeats 1000000 in
theorem ovf_iInt_i32_lo (n : Int) (h1 : n < -2147483648) (w : World) :
    Calls Try.prog 54 #[.iface 74 (.int .i64 n), .int .i64 107] w (ErrPost w) := by
  go_enter Try.func54, Try.ntmps54
  go_wp2_with (go_at_call 58; refine (overflow_any _ _ _).mono ?_; rintro e w1 ⟨p, rfl, hb1⟩)
  go_ret
  exact ⟨_, rfl, hb1⟩

set_option maxRecDepth 100000 in
set_option maxHeartbeats 1000000 in
theorem ovf_iInt_i32_hi (n : Int) (h1 : 2147483647 < n) (h2 : -2147483648 ≤ n) (w : World) :
    Calls Try.prog 54 #[.iface 74 (.int .i64 n), .int .i64 107] w (ErrPost w) := by
  go_enter Try.func54, Try.ntmps54
  go_wp2_with (go_at_call 58; refine (overflow_any _ _ _).mono ?_; rintro e w1 ⟨p, rfl, hb1⟩)
  go_ret
  exact ⟨_, rfl, hb1⟩

set_option maxRecDepth 100000 in
set_option maxHeartbeats 1000000 in
theorem ovf_iInt_i64_ok (n : Int) (h1 : -9223372036854775808 ≤ n) (h2 : n ≤ 9223372036854775807) (w : World) :
    Calls Try.prog 54 #[.iface 74 (.int .i64 n), .int .i64 108] w fun e w' => e = .returned .nilIface ∧ w = w' := by
  go_enter Try.func54, Try.ntmps54
  go_wp2
  go_ret
  exact ⟨rfl, rfl⟩

set_option maxRecDepth 100000 in
set_option maxHeartbeats 1000000 in
theorem ovf_iInt_u8_ok (n : Int) (h1 : 0 ≤ n) (h2 : n ≤ 255) (w : World) :
    Calls Try.prog 54 #[.iface 74 (.int .i64 n), .int .i64 117] w fun e w' => e = .returned .nilIface ∧ w = w' := by
  have hw : IntKind.u64.wrap n = n := wrap_i (by simp [IntKind.min, IntKind.signed]; omega) (by simp [IntKind.max, IntKind.signed, IntKind.bits]; omega)
  go_enter Try.func54, Try.ntmps54
  go_wp2
  go_ret
  exact ⟨rfl, rfl⟩

set_option maxRecDepth 100000 in
set_option maxHeartbeats 1000000 in
theorem ovf_iInt_u8_lo (n : Int) (h1 : n < 0) (w : World) :
    Calls Try.prog 54 #[.iface 74 (.int .i64 n), .int .i64 117] w (ErrPost w) := by
  go_enter Try.func54, Try.ntmps54
  go_wp2_with (go_at_call 58; refine (overflow_any _ _ _).mono ?_; rintro e w1 ⟨p, rfl, hb1⟩)
  go_ret
  exact ⟨_, rfl, hb1⟩

set_option maxRecDepth 100000 in
set_option maxHeartbeats 1000000 in
theorem ovf_iInt_u8_hi (n : Int) (h1 : 255 < n) (h2 : n ≤ 9223372036854775807) (w : World) :
    Calls Try.prog 54 #[.iface 74 (.int .i64 n), .int .i64 117] w (ErrPost w) := by
  have hw : IntKind.u64.wrap n = n := wrap_i (by simp [IntKind.min, IntKind.signed]; omega) (by simp [IntKind.max, IntKind.signed, IntKind.bits]; omega)
  go_enter Try.func54, Try.ntmps54
  go_wp2_with (go_at_call 58; refine (overflow_any _ _ _).mono ?_; rintro e w1 ⟨p, rfl, hb1⟩)
  go_ret
  exact ⟨_, rfl, hb1⟩

set_option maxRecDepth 100000 in
set_option maxHeartbeats 1000000 in
theorem ovf_iInt_u16_ok (n : Int) (h1 : 0 ≤ n) (h2 : n ≤ 65535) (w : World) :
    Calls Try.prog 54 #[.iface 74 (.int .i64 n), .int .i64 118] w fun e w' => e = .returned .nilIface ∧ w = w' := by
  have hw : IntKind.u64.wrap n = n := wrap_i (by simp [IntKind.min, IntKind.signed]; omega) (by simp [IntKind.max, IntKind.signed, IntKind.bits]; omega)
  go_enter Try.func54, Try.ntmps54
  go_wp2
  go_ret
  exact ⟨rfl, rfl⟩

set_option maxRecDepth 100000 in
set_option maxHeartbeats 1000000 in
theorem ovf_iInt_u16_lo (n : Int) (h1 : n < 0) (w : World) :
    Calls Try.prog 54 #[.iface 74 (.int .i64 n), .int .i64 118] w (ErrPost w) := by
  go_enter Try.func54, Try.ntmps54
  go_wp2_with (go_at_call 58; refine (overflow_any _ _ _).mono ?_; rintro e w1 ⟨p, rfl, hb1⟩)
  go_ret
  exact ⟨_, rfl, hb1⟩

set_option maxRecDepth 100000 in
set_option maxHeartbeats 1000000 in
theorem ovf_iInt_u16_hi (n : Int) (h1 : 65535 < n) (h2 : n ≤ 9223372036854775807) (w : World) :
    Calls Try.prog 54 #[.iface 74 (.int .i64 n), .int .i64 118] w (ErrPost w) := by
  have hw : IntKind.u64.wrap n = n := wrap_i (by simp [IntKind.min, IntKind.signed]; omega) (by simp [IntKind.max, IntKind.signed, IntKind.bits]; omega)
  go_enter Try.func54, Try.ntmps54
  go_wp2_with (go_at_call 58; refine (overflow_any _ _ _).mono ?_; rintro e w1 ⟨p, rfl, hb1⟩)
  go_ret
  exact ⟨_, rfl, hb1⟩

set_option maxRecDepth 100000 in
set_option maxHeartbeats 1000000 in
theorem ovf_iInt_u32_ok (n : Int) (h1 : 0 ≤ n) (h2 : n ≤ 4294967295) (w : World) :
    Calls Try.prog 54 #[.iface 74 (.int .i64 n), .int .i64 119] w fun e w' => e = .returned .nilIface ∧ w = w' := by
  have hw : IntKind.u64.wrap n = n := wrap_i (by simp [IntKind.min, IntKind.signed]; omega) (by simp [IntKind.max, IntKind.signed, IntKind.bits]; omega)
  go_enter Try.func54, Try.ntmps54
  go_wp2
  go_ret
  exact ⟨rfl, rfl⟩

set_option maxRecDepth 100000 in
set_option maxHeartbeats 1000000 in
theorem ovf_iInt_u32_lo (n : Int) (h1 : n < 0) (w : World) :
    Calls Try.prog 54 #[.iface 74 (.int .i64 n), .int .i64 119] w (ErrPost w) := by
  go_enter Try.func54, Try.ntmps54
  go_wp2_with (go_at_call 58; refine (overflow_any _ _ _).mono ?_; rintro e w1 ⟨p, rfl, hb1⟩)
  go_ret
  exact ⟨_, rfl, hb1⟩

set_option maxRecDepth 100000 in
set_option maxHeartbeats 1000000 in
theorem ovf_iInt_u32_hi (n : Int) (h1 : 4294967295 < n) (h2 : n ≤ 9223372036854775807) (w : World) :
    Calls Try.prog 54 #[.iface 74 (.int .i64 n), .int .i64 119] w (ErrPost w) := by
  have hw : IntKind.u64.wrap n = n := wrap_i (by simp [IntKind.min, IntKind.signed]; omega) (by simp [IntKind.max, IntKind.signed, IntKind.bits]; omega)
  go_enter Try.func54, Try.ntmps54
  go_wp2_with (go_at_call 58; refine (overflow_any _ _ _).mono ?_; rintro e w1 ⟨p, rfl, hb1⟩)
  go_ret
  exact ⟨_, rfl, hb1⟩

set_option maxRecDepth 100000 in
set_option maxHeartbeats 1000000 in
theorem ovf_iInt_u64_ok (n : Int) (h1 : 0 ≤ n) (h2 : n ≤ 9223372036854775807) (w : World) :
    Calls Try.prog 54 #[.iface 74 (.int .i64 n), .int .i64 120] w fun e w' => e = .returned .nilIface ∧ w = w' := by
  have hw : IntKind.u64.wrap n = n := wrap_i (by simp [IntKind.min, IntKind.signed]; omega) (by simp [IntKind.max, IntKind.signed, IntKind.bits]; omega)
  go_enter Try.func54, Try.ntmps54
  go_wp2
  go_ret
  exact ⟨rfl, rfl⟩

set_option maxRecDepth 100000 in
set_option maxHeartbeats 1000000 in
theorem ovf_iInt_u64_lo (n : Int) (h1 : n < 0) (w : World) :
    Calls Try.prog 54 #[.iface 74 (.int .i64 n), .int .i64 120] w (ErrPost w) := by
  go_enter Try.func54, Try.ntmps54
  go_wp2_with (go_at_call 58; refine (overflow_any _ _ _).mono ?_; rintro e w1 ⟨p, rfl, hb1⟩)
  go_ret
  exact ⟨_, rfl, hb1⟩

/-- A literal's integer fits. -/
def fitI (q : IntKind) (n : Int) : Bool := decide (q.min ≤ n) && decide (n ≤ q.max)

theorem fitI_iff (q : IntKind) (n : Int) : fitI q n = true ↔ q.min ≤ n ∧ n ≤ q.max := by simp [fitI]

def OvfPost (ok : Bool) (w : World) (e : Ending) (w' : World) : Prop := if ok = true then e = .returned .nilIface ∧ Below w.heap.size w w' else ErrPost w e w'

theorem ovf_iInt (q : IntKind) (n : Int) (h1 : -9223372036854775808 ≤ n) (h2 : n ≤ 9223372036854775807) (w : World) :
    Calls Try.prog 54 #[.iface 74 (.int .i64 n), .int .i64 (ikTy q)] w (OvfPost (fitI q n) w) := by
  have ok : ∀ {e : Ending} {w' : World}, e = .returned .nilIface ∧ w = w' → fitI q n = true → OvfPost (fitI q n) w e w' := fun h hf => by
    unfold OvfPost; rw [if_pos hf]; obtain ⟨h, rfl⟩ := h; exact ⟨h, Below.refl _ _⟩
  have no : ∀ {e : Ending} {w' : World}, ErrPost w e w' → fitI q n = false → OvfPost (fitI q n) w e w' := fun h hf => by
    unfold OvfPost; rw [if_neg (by rw [hf]; decide)]; exact h
  cases q
  case i8 =>
    by_cases c1 : n < -128
    · exact (ovf_iInt_i8_lo n c1 w).mono fun e w' h => no h (Bool.eq_false_iff.2 (fun hf => by have := (fitI_iff _ _).1 hf; rw [q_i8.1, q_i8.2] at this; omega))
    · by_cases c2 : 127 < n
      · exact (ovf_iInt_i8_hi n c2 (by omega) w).mono fun e w' h => no h (Bool.eq_false_iff.2 (fun hf => by have := (fitI_iff _ _).1 hf; rw [q_i8.1, q_i8.2] at this; omega))
      · exact (ovf_iInt_i8_ok n (by omega) (by omega) w).mono fun e w' h => ok h ((fitI_iff _ _).2 (by rw [q_i8.1, q_i8.2]; omega))
  case i16 =>
    by_cases c1 : n < -32768
    · exact (ovf_iInt_i16_lo n c1 w).mono fun e w' h => no h (Bool.eq_false_iff.2 (fun hf => by have := (fitI_iff _ _).1 hf; rw [q_i16.1, q_i16.2] at this; omega))
    · by_cases c2 : 32767 < n
      · exact (ovf_iInt_i16_hi n c2 (by omega) w).mono fun e w' h => no h (Bool.eq_false_iff.2 (fun hf => by have := (fitI_iff _ _).1 hf; rw [q_i16.1, q_i16.2] at this; omega))
      · exact (ovf_iInt_i16_ok n (by omega) (by omega) w).mono fun e w' h => ok h ((fitI_iff _ _).2 (by rw [q_i16.1, q_i16.2]; omega))
  case i32 =>
    by_cases c1 : n < -2147483648
    · exact (ovf_iInt_i32_lo n c1 w).mono fun e w' h => no h (Bool.eq_false_iff.2 (fun hf => by have := (fitI_iff _ _).1 hf; rw [q_i32.1, q_i32.2] at this; omega))
    · by_cases c2 : 2147483647 < n
      · exact (ovf_iInt_i32_hi n c2 (by omega) w).mono fun e w' h => no h (Bool.eq_false_iff.2 (fun hf => by have := (fitI_iff _ _).1 hf; rw [q_i32.1, q_i32.2] at this; omega))
      · exact (ovf_iInt_i32_ok n (by omega) (by omega) w).mono fun e w' h => ok h ((fitI_iff _ _).2 (by rw [q_i32.1, q_i32.2]; omega))
  case i64 =>
    exact (ovf_iInt_i64_ok n (by omega) (by omega) w).mono fun e w' h => ok h ((fitI_iff _ _).2 (by rw [q_i64.1, q_i64.2]; omega))
  case u8 =>
    by_cases c1 : n < 0
    · exact (ovf_iInt_u8_lo n c1 w).mono fun e w' h => no h (Bool.eq_false_iff.2 (fun hf => by have := (fitI_iff _ _).1 hf; rw [q_u8.1, q_u8.2] at this; omega))
    · by_cases c2 : 255 < n
      · exact (ovf_iInt_u8_hi n c2 (by omega) w).mono fun e w' h => no h (Bool.eq_false_iff.2 (fun hf => by have := (fitI_iff _ _).1 hf; rw [q_u8.1, q_u8.2] at this; omega))
      · exact (ovf_iInt_u8_ok n (by omega) (by omega) w).mono fun e w' h => ok h ((fitI_iff _ _).2 (by rw [q_u8.1, q_u8.2]; omega))
  case u16 =>
    by_cases c1 : n < 0
    · exact (ovf_iInt_u16_lo n c1 w).mono fun e w' h => no h (Bool.eq_false_iff.2 (fun hf => by have := (fitI_iff _ _).1 hf; rw [q_u16.1, q_u16.2] at this; omega))
    · by_cases c2 : 65535 < n
      · exact (ovf_iInt_u16_hi n c2 (by omega) w).mono fun e w' h => no h (Bool.eq_false_iff.2 (fun hf => by have := (fitI_iff _ _).1 hf; rw [q_u16.1, q_u16.2] at this; omega))
      · exact (ovf_iInt_u16_ok n (by omega) (by omega) w).mono fun e w' h => ok h ((fitI_iff _ _).2 (by rw [q_u16.1, q_u16.2]; omega))
  case u32 =>
    by_cases c1 : n < 0
    · exact (ovf_iInt_u32_lo n c1 w).mono fun e w' h => no h (Bool.eq_false_iff.2 (fun hf => by have := (fitI_iff _ _).1 hf; rw [q_u32.1, q_u32.2] at this; omega))
    · by_cases c2 : 4294967295 < n
      · exact (ovf_iInt_u32_hi n c2 (by omega) w).mono fun e w' h => no h (Bool.eq_false_iff.2 (fun hf => by have := (fitI_iff _ _).1 hf; rw [q_u32.1, q_u32.2] at this; omega))
      · exact (ovf_iInt_u32_ok n (by omega) (by omega) w).mono fun e w' h => ok h ((fitI_iff _ _).2 (by rw [q_u32.1, q_u32.2]; omega))
  case u64 =>
    by_cases c1 : n < 0
    · exact (ovf_iInt_u64_lo n c1 w).mono fun e w' h => no h (Bool.eq_false_iff.2 (fun hf => by have := (fitI_iff _ _).1 hf; rw [q_u64.1, q_u64.2] at this; omega))
    · exact (ovf_iInt_u64_ok n (by omega) (by omega) w).mono fun e w' h => ok h ((fitI_iff _ _).2 (by rw [q_u64.1, q_u64.2]; omega))

end Go.Proofs.Ytamekjbdpcflfaa
