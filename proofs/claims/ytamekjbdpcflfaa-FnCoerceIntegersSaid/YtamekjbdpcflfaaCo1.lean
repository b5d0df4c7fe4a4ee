/-
  ql.coerce1, joined: a literal beside any value. PRINTED BY wip/tpl/gen_co1j.py.
-/
import Derived.Test.YtamekjbdpcflfaaCo1a
import Derived.Test.YtamekjbdpcflfaaCo1b
import Derived.Test.YtamekjbdpcflfaaCo1c
import Derived.Test.YtamekjbdpcflfaaCo1d
import Derived.Test.YtamekjbdpcflfaaOut2
namespace Go.Proofs.Ytamekjbdpcflfaa
open Go.RowKit

def SV.isLit : SV → Bool
  | .iInt _ | .iRune _ | .iUint _ | .iFloat _ => true
  | _ => false

/-- What is known of a value brought to another's type. -/
def Co1Post (x y : SV) (w : World) (e : Ending) (w' : World) : Prop :=
  ∃ z v, e = .returned v ∧ z.wf ∧ Rep w' z v ∧ (x.isLit = false → z = x) ∧ (∀ n q m, x = .iInt n → y = .int q m → fitI q n = true → z = .int q n) ∧ Below w.heap.size w w'

theorem co1_keep {x y : SV} {v : Value} {w : World} {e : Ending} {w' : World} (hx : x.wf) (hr : Rep w x v) (h : e = .returned v ∧ w = w')
    (h3 : ∀ n q m, x = .iInt n → y = .int q m → fitI q n = true → x = .int q n) : Co1Post x y w e w' := by
  obtain ⟨rfl, rfl⟩ := h
  exact ⟨x, v, rfl, hx, hr, fun _ => rfl, h3, Below.refl _ _⟩

theorem co1_new (z : SV) {x y : SV} {v : Value} {w : World} {e : Ending} {w' : World} (hl : x.isLit = true) (hz : z.wf) (hr : Rep w z v) (h : e = .returned v ∧ w = w')
    (h3 : ∀ n q m, x = .iInt n → y = .int q m → fitI q n = true → z = .int q n) : Co1Post x y w e w' := by
  obtain ⟨rfl, rfl⟩ := h
  exact ⟨z, v, rfl, hz, hr, fun hh => by rw [hl] at hh; exact absurd hh (by decide), h3, Below.refl _ _⟩

theorem co1_int (c : Int → SV) {x y : SV} {T : TypeId} {q : IntKind} {w : World} {e : Ending} {w' : World} (hl : x.isLit = true)
    (hc : ∀ m, q.min ≤ m → m ≤ q.max → (c m).wf ∧ Rep w (c m) (.iface T (.int q m))) (h : IntPost T q w e w')
    (h3 : ∀ n q' m, x = .iInt n → y = .int q' m → False) : Co1Post x y w e w' := by
  obtain ⟨m, h1, h2, rfl, rfl⟩ := h
  exact ⟨c m, _, rfl, (hc m h1 h2).1, (hc m h1 h2).2, fun hh => by rw [hl] at hh; exact absurd hh (by decide), fun n q' m' a b _ => absurd (h3 n q' m' a b) id, Below.refl _ _⟩

theorem rep_iface {w : World} {y : SV} {v : Value} (h : Rep w y v) (hy : y ≠ .null) : ∃ V z, v = .iface V z := by
  cases y with
  | null => exact absurd rfl hy
  | blob l => obtain ⟨a, cap, rfl, _⟩ := h; exact ⟨_, _, rfl⟩
  | _ => exact ⟨_, _, h⟩

theorem down_lt (x : Nat) : Flt.down x < 4294967296 := by
  unfold Flt.down
  exact Nat.lt_of_lt_of_le (Ieee.Format.write_lt _ _) (by decide)
theorem i64_lt (n : Int) : floatOfInt .f64 n < 18446744073709551616 := by
  unfold floatOfInt FloatKind.nearest FloatKind.encode
  exact Nat.lt_of_lt_of_le (Ieee.Format.write_lt _ _) (by decide)
theorem i32_lt (n : Int) : floatOfInt .f32 n < 4294967296 := by
  unfold floatOfInt FloatKind.nearest FloatKind.encode
  exact Nat.lt_of_lt_of_le (Ieee.Format.write_lt _ _) (by decide)

set_option maxRecDepth 100000 in
set_option maxHeartbeats 1000000 in
theorem co1_iInt (n : Int) (hn : (SV.iInt n).wf) (y : SV) (hy : y ≠ .null) (v : Value) (w : World) (h : Rep w y v) :
    Calls Try.prog 56 #[.iface 74 (.int .i64 n), v] w (Co1Post (.iInt n) y w) := by
  have hb : -9223372036854775808 ≤ n ∧ n ≤ 9223372036854775807 := by
    obtain ⟨a, b⟩ := hn
    rw [q_i64.1] at a; rw [q_i64.2] at b
    exact ⟨a, b⟩
  cases y with
  | null => exact absurd rfl hy
  | bool b =>
    obtain rfl : v = _ := h
    exact (co1_iInt_bool _ _ w).mono fun e w' he => co1_keep hn rfl he (by intro _ _ _ _ h; cases h)
  | str s =>
    obtain rfl : v = _ := h
    exact (co1_iInt_str _ _ w).mono fun e w' he => co1_keep hn rfl he (by intro _ _ _ _ h; cases h)
  | blob l =>
    obtain ⟨a, cap, rfl, _⟩ := h
    exact (co1_iInt_blob _ _ w).mono fun e w' he => co1_keep hn rfl he (by intro _ _ _ _ h; cases h)
  | iInt m =>
    obtain rfl : v = _ := h
    exact (co1_iInt_iInt _ _ w).mono fun e w' he => co1_keep hn rfl he (by intro _ _ _ _ h; cases h)
  | iRune m =>
    obtain rfl : v = _ := h
    exact (co1_iInt_iRune _ _ w).mono fun e w' he => co1_keep hn rfl he (by intro _ _ _ _ h; cases h)
  | iFloat g =>
    obtain rfl : v = _ := h
    exact (co1_iInt_iFloat _ _ w).mono fun e w' he => co1_new (.iFloat (floatOfInt .f64 n)) rfl (i64_lt n) rfl he (by intro _ _ _ _ h; cases h)
  | f64 g =>
    obtain rfl : v = _ := h
    exact (co1_iInt_f64 _ _ w).mono fun e w' he => co1_new (.f64 (floatOfInt .f64 n)) rfl (i64_lt n) rfl he (by intro _ _ _ _ h; cases h)
  | f32 g =>
    obtain rfl : v = _ := h
    exact (co1_iInt_f32 _ _ w).mono fun e w' he => co1_new (.f32 (floatOfInt .f32 n)) rfl (i32_lt n) rfl he (by intro _ _ _ _ h; cases h)
  | iUint m =>
    obtain rfl : v = _ := h
    by_cases hl : n < 0
    · exact (co1_iInt_iUint_no _ _ hl w).mono fun e w' he => co1_keep hn rfl he (by intro _ _ _ _ h; cases h)
    · exact (co1_iInt_iUint_ok _ _ (by omega) hb.2 w).mono fun e w' he => co1_new (.iUint n) rfl ⟨by rw [q_u64.1]; omega, by rw [q_u64.2]; omega⟩ rfl he (by intro _ _ _ _ h; cases h)
  | int q m =>
    obtain rfl : v = _ := h
    cases q with
    | i8 =>
      by_cases hl : n < -128
      · exact (co1_iInt_i8_lo _ _ hl w).mono fun e w' he => co1_keep hn rfl he (by intro n2 q2 m2 a1 a2 a3; cases a1; cases a2; rw [fitI_iff, q_i8.1, q_i8.2] at a3; omega)
      · by_cases hh : 127 < n
        · exact (co1_iInt_i8_hi _ _ hh (by omega) w).mono fun e w' he => co1_keep hn rfl he (by intro n2 q2 m2 a1 a2 a3; cases a1; cases a2; rw [fitI_iff, q_i8.1, q_i8.2] at a3; omega)
        · exact (co1_iInt_i8_ok _ _ (by omega) (by omega) w).mono fun e w' he => co1_new (.int .i8 n) rfl ⟨by rw [q_i8.1]; omega, by rw [q_i8.2]; omega⟩ rfl he (by intro n2 q2 m2 a1 a2 _; cases a1; cases a2; rfl)
    | i16 =>
      by_cases hl : n < -32768
      · exact (co1_iInt_i16_lo _ _ hl w).mono fun e w' he => co1_keep hn rfl he (by intro n2 q2 m2 a1 a2 a3; cases a1; cases a2; rw [fitI_iff, q_i16.1, q_i16.2] at a3; omega)
      · by_cases hh : 32767 < n
        · exact (co1_iInt_i16_hi _ _ hh (by omega) w).mono fun e w' he => co1_keep hn rfl he (by intro n2 q2 m2 a1 a2 a3; cases a1; cases a2; rw [fitI_iff, q_i16.1, q_i16.2] at a3; omega)
        · exact (co1_iInt_i16_ok _ _ (by omega) (by omega) w).mono fun e w' he => co1_new (.int .i16 n) rfl ⟨by rw [q_i16.1]; omega, by rw [q_i16.2]; omega⟩ rfl he (by intro n2 q2 m2 a1 a2 _; cases a1; cases a2; rfl)
    | i32 =>
      by_cases hl : n < -2147483648
      · exact (co1_iInt_i32_lo _ _ hl w).mono fun e w' he => co1_keep hn rfl he (by intro n2 q2 m2 a1 a2 a3; cases a1; cases a2; rw [fitI_iff, q_i32.1, q_i32.2] at a3; omega)
      · by_cases hh : 2147483647 < n
        · exact (co1_iInt_i32_hi _ _ hh (by omega) w).mono fun e w' he => co1_keep hn rfl he (by intro n2 q2 m2 a1 a2 a3; cases a1; cases a2; rw [fitI_iff, q_i32.1, q_i32.2] at a3; omega)
        · exact (co1_iInt_i32_ok _ _ (by omega) (by omega) w).mono fun e w' he => co1_new (.int .i32 n) rfl ⟨by rw [q_i32.1]; omega, by rw [q_i32.2]; omega⟩ rfl he (by intro n2 q2 m2 a1 a2 _; cases a1; cases a2; rfl)
    | i64 =>
      exact (co1_iInt_i64_ok _ _ w).mono fun e w' he => co1_new (.int .i64 n) rfl ⟨by rw [q_i64.1]; omega, by rw [q_i64.2]; omega⟩ rfl he (by intro n2 q2 m2 a1 a2 _; cases a1; cases a2; rfl)
    | u8 =>
      by_cases hl : n < 0
      · exact (co1_iInt_u8_lo _ _ hl w).mono fun e w' he => co1_keep hn rfl he (by intro n2 q2 m2 a1 a2 a3; cases a1; cases a2; rw [fitI_iff, q_u8.1, q_u8.2] at a3; omega)
      · by_cases hh : 255 < n
        · exact (co1_iInt_u8_hi _ _ hh (by omega) w).mono fun e w' he => co1_keep hn rfl he (by intro n2 q2 m2 a1 a2 a3; cases a1; cases a2; rw [fitI_iff, q_u8.1, q_u8.2] at a3; omega)
        · exact (co1_iInt_u8_ok _ _ (by omega) (by omega) w).mono fun e w' he => co1_new (.int .u8 n) rfl ⟨by rw [q_u8.1]; omega, by rw [q_u8.2]; omega⟩ rfl he (by intro n2 q2 m2 a1 a2 _; cases a1; cases a2; rfl)
    | u16 =>
      by_cases hl : n < 0
      · exact (co1_iInt_u16_lo _ _ hl w).mono fun e w' he => co1_keep hn rfl he (by intro n2 q2 m2 a1 a2 a3; cases a1; cases a2; rw [fitI_iff, q_u16.1, q_u16.2] at a3; omega)
      · by_cases hh : 65535 < n
        · exact (co1_iInt_u16_hi _ _ hh (by omega) w).mono fun e w' he => co1_keep hn rfl he (by intro n2 q2 m2 a1 a2 a3; cases a1; cases a2; rw [fitI_iff, q_u16.1, q_u16.2] at a3; omega)
        · exact (co1_iInt_u16_ok _ _ (by omega) (by omega) w).mono fun e w' he => co1_new (.int .u16 n) rfl ⟨by rw [q_u16.1]; omega, by rw [q_u16.2]; omega⟩ rfl he (by intro n2 q2 m2 a1 a2 _; cases a1; cases a2; rfl)
    | u32 =>
      by_cases hl : n < 0
      · exact (co1_iInt_u32_lo _ _ hl w).mono fun e w' he => co1_keep hn rfl he (by intro n2 q2 m2 a1 a2 a3; cases a1; cases a2; rw [fitI_iff, q_u32.1, q_u32.2] at a3; omega)
      · by_cases hh : 4294967295 < n
        · exact (co1_iInt_u32_hi _ _ hh (by omega) w).mono fun e w' he => co1_keep hn rfl he (by intro n2 q2 m2 a1 a2 a3; cases a1; cases a2; rw [fitI_iff, q_u32.1, q_u32.2] at a3; omega)
        · exact (co1_iInt_u32_ok _ _ (by omega) (by omega) w).mono fun e w' he => co1_new (.int .u32 n) rfl ⟨by rw [q_u32.1]; omega, by rw [q_u32.2]; omega⟩ rfl he (by intro n2 q2 m2 a1 a2 _; cases a1; cases a2; rfl)
    | u64 =>
      by_cases hl : n < 0
      · exact (co1_iInt_u64_lo _ _ hl w).mono fun e w' he => co1_keep hn rfl he (by intro n2 q2 m2 a1 a2 a3; cases a1; cases a2; rw [fitI_iff, q_u64.1, q_u64.2] at a3; omega)
      · exact (co1_iInt_u64_ok _ _ (by omega) hb.2 w).mono fun e w' he => co1_new (.int .u64 n) rfl ⟨by rw [q_u64.1]; omega, by rw [q_u64.2]; omega⟩ rfl he (by intro n2 q2 m2 a1 a2 _; cases a1; cases a2; rfl)

set_option maxRecDepth 100000 in
set_option maxHeartbeats 1000000 in
theorem co1_iRune (n : Int) (hn : (SV.iRune n).wf) (y : SV) (hy : y ≠ .null) (v : Value) (w : World) (h : Rep w y v) :
    Calls Try.prog 56 #[.iface 75 (.int .i32 n), v] w (Co1Post (.iRune n) y w) := by
  have hb : -2147483648 ≤ n ∧ n ≤ 2147483647 := by
    obtain ⟨a, b⟩ := hn
    rw [q_i32.1] at a; rw [q_i32.2] at b
    exact ⟨a, b⟩
  have hw : wrap64 n = n := wrap64_of (by omega) (by omega)
  cases y with
  | null => exact absurd rfl hy
  | bool b =>
    obtain rfl : v = _ := h
    exact (co1_iRune_bool _ _ w).mono fun e w' he => co1_keep hn rfl he (by intro _ _ _ _ h; cases h)
  | str s =>
    obtain rfl : v = _ := h
    exact (co1_iRune_str _ _ w).mono fun e w' he => co1_keep hn rfl he (by intro _ _ _ _ h; cases h)
  | blob l =>
    obtain ⟨a, cap, rfl, _⟩ := h
    exact (co1_iRune_blob _ _ w).mono fun e w' he => co1_keep hn rfl he (by intro _ _ _ _ h; cases h)
  | iFloat g =>
    obtain rfl : v = _ := h
    exact (co1_iRune_iFloat _ _ hb.1 hb.2 hw w).mono fun e w' he => co1_new (.iFloat (floatOfInt .f64 n)) rfl (i64_lt n) rfl he (by intro _ _ _ h; cases h)
  | f64 g =>
    obtain rfl : v = _ := h
    exact (co1_iRune_f64 _ _ hb.1 hb.2 hw w).mono fun e w' he => co1_new (.f64 (floatOfInt .f64 n)) rfl (i64_lt n) rfl he (by intro _ _ _ h; cases h)
  | f32 g =>
    obtain rfl : v = _ := h
    exact (co1_iRune_f32 _ _ hb.1 hb.2 hw w).mono fun e w' he => co1_new (.f32 (floatOfInt .f32 n)) rfl (i32_lt n) rfl he (by intro _ _ _ h; cases h)
  | iInt m =>
    obtain rfl : v = _ := h
    exact (co1_iRune_iInt _ _ hb.1 hb.2 hw w).mono fun e w' he => co1_int .iInt rfl (fun m a b => ⟨⟨a, b⟩, rfl⟩) he (by intro _ _ _ h; cases h)
  | iRune m =>
    obtain rfl : v = _ := h
    exact (co1_iRune_iRune _ _ hb.1 hb.2 hw w).mono fun e w' he => co1_int .iRune rfl (fun m a b => ⟨⟨a, b⟩, rfl⟩) he (by intro _ _ _ h; cases h)
  | iUint m =>
    obtain rfl : v = _ := h
    exact (co1_iRune_iUint _ _ hb.1 hb.2 hw w).mono fun e w' he => co1_int .iUint rfl (fun m a b => ⟨⟨a, b⟩, rfl⟩) he (by intro _ _ _ h; cases h)
  | int q m =>
    obtain rfl : v = _ := h
    cases q with
    | i8 => exact (co1_iRune_i8 _ _ hb.1 hb.2 hw w).mono fun e w' he => co1_int (.int .i8) rfl (fun m a b => ⟨⟨a, b⟩, rfl⟩) he (by intro _ _ _ h; cases h)
    | i16 => exact (co1_iRune_i16 _ _ hb.1 hb.2 hw w).mono fun e w' he => co1_int (.int .i16) rfl (fun m a b => ⟨⟨a, b⟩, rfl⟩) he (by intro _ _ _ h; cases h)
    | i32 => exact (co1_iRune_i32 _ _ hb.1 hb.2 hw w).mono fun e w' he => co1_int (.int .i32) rfl (fun m a b => ⟨⟨a, b⟩, rfl⟩) he (by intro _ _ _ h; cases h)
    | i64 => exact (co1_iRune_i64 _ _ hb.1 hb.2 hw w).mono fun e w' he => co1_int (.int .i64) rfl (fun m a b => ⟨⟨a, b⟩, rfl⟩) he (by intro _ _ _ h; cases h)
    | u8 => exact (co1_iRune_u8 _ _ hb.1 hb.2 hw w).mono fun e w' he => co1_int (.int .u8) rfl (fun m a b => ⟨⟨a, b⟩, rfl⟩) he (by intro _ _ _ h; cases h)
    | u16 => exact (co1_iRune_u16 _ _ hb.1 hb.2 hw w).mono fun e w' he => co1_int (.int .u16) rfl (fun m a b => ⟨⟨a, b⟩, rfl⟩) he (by intro _ _ _ h; cases h)
    | u32 => exact (co1_iRune_u32 _ _ hb.1 hb.2 hw w).mono fun e w' he => co1_int (.int .u32) rfl (fun m a b => ⟨⟨a, b⟩, rfl⟩) he (by intro _ _ _ h; cases h)
    | u64 => exact (co1_iRune_u64 _ _ hb.1 hb.2 hw w).mono fun e w' he => co1_int (.int .u64) rfl (fun m a b => ⟨⟨a, b⟩, rfl⟩) he (by intro _ _ _ h; cases h)

set_option maxRecDepth 100000 in
set_option maxHeartbeats 1000000 in
theorem co1_iUint (n : Int) (hn : (SV.iUint n).wf) (y : SV) (hy : y ≠ .null) (v : Value) (w : World) (h : Rep w y v) :
    Calls Try.prog 56 #[.iface 76 (.int .u64 n), v] w (Co1Post (.iUint n) y w) := by
  have hb : 0 ≤ n ∧ n ≤ 18446744073709551615 := by
    obtain ⟨a, b⟩ := hn
    rw [q_u64.1] at a; rw [q_u64.2] at b
    exact ⟨a, b⟩
  cases y with
  | null => exact absurd rfl hy
  | bool b =>
    obtain rfl : v = _ := h
    exact (co1_iUint_bool _ _ w).mono fun e w' he => co1_keep hn rfl he (by intro _ _ _ h; cases h)
  | str s =>
    obtain rfl : v = _ := h
    exact (co1_iUint_str _ _ w).mono fun e w' he => co1_keep hn rfl he (by intro _ _ _ h; cases h)
  | blob l =>
    obtain ⟨a, cap, rfl, _⟩ := h
    exact (co1_iUint_blob _ _ w).mono fun e w' he => co1_keep hn rfl he (by intro _ _ _ h; cases h)
  | iRune m =>
    obtain rfl : v = _ := h
    exact (co1_iUint_iRune _ _ w).mono fun e w' he => co1_keep hn rfl he (by intro _ _ _ h; cases h)
  | iUint m =>
    obtain rfl : v = _ := h
    exact (co1_iUint_iUint _ _ w).mono fun e w' he => co1_keep hn rfl he (by intro _ _ _ h; cases h)
  | iFloat g =>
    obtain rfl : v = _ := h
    exact (co1_iUint_iFloat _ _ w).mono fun e w' he => co1_new (.iFloat (floatOfInt .f64 n)) rfl (i64_lt n) rfl he (by intro _ _ _ h; cases h)
  | f64 g =>
    obtain rfl : v = _ := h
    exact (co1_iUint_f64 _ _ w).mono fun e w' he => co1_new (.f64 (floatOfInt .f64 n)) rfl (i64_lt n) rfl he (by intro _ _ _ h; cases h)
  | f32 g =>
    obtain rfl : v = _ := h
    exact (co1_iUint_f32 _ _ w).mono fun e w' he => co1_new (.f32 (floatOfInt .f32 n)) rfl (i32_lt n) rfl he (by intro _ _ _ h; cases h)
  | iInt m =>
    obtain rfl : v = _ := h
    by_cases hh : 9223372036854775807 < n
    · exact (co1_iUint_iInt_no _ _ hh w).mono fun e w' he => co1_keep hn rfl he (by intro _ _ _ h; cases h)
    · exact (co1_iUint_iInt_ok _ _ hb.1 (by omega) w).mono fun e w' he => co1_int .iInt rfl (fun m a b => ⟨⟨a, b⟩, rfl⟩) he (by intro _ _ _ h; cases h)
  | int q m =>
    obtain rfl : v = _ := h
    cases q with
    | i8 =>
      by_cases hh : 127 < n
      · exact (co1_iUint_i8_no _ _ hh w).mono fun e w' he => co1_keep hn rfl he (by intro _ _ _ h; cases h)
      · exact (co1_iUint_i8_ok _ _ hb.1 (by omega) w).mono fun e w' he => co1_int (.int .i8) rfl (fun m a b => ⟨⟨a, b⟩, rfl⟩) he (by intro _ _ _ h; cases h)
    | i16 =>
      by_cases hh : 32767 < n
      · exact (co1_iUint_i16_no _ _ hh w).mono fun e w' he => co1_keep hn rfl he (by intro _ _ _ h; cases h)
      · exact (co1_iUint_i16_ok _ _ hb.1 (by omega) w).mono fun e w' he => co1_int (.int .i16) rfl (fun m a b => ⟨⟨a, b⟩, rfl⟩) he (by intro _ _ _ h; cases h)
    | i32 =>
      by_cases hh : 2147483647 < n
      · exact (co1_iUint_i32_no _ _ hh w).mono fun e w' he => co1_keep hn rfl he (by intro _ _ _ h; cases h)
      · exact (co1_iUint_i32_ok _ _ hb.1 (by omega) w).mono fun e w' he => co1_int (.int .i32) rfl (fun m a b => ⟨⟨a, b⟩, rfl⟩) he (by intro _ _ _ h; cases h)
    | i64 =>
      by_cases hh : 9223372036854775807 < n
      · exact (co1_iUint_i64_no _ _ hh w).mono fun e w' he => co1_keep hn rfl he (by intro _ _ _ h; cases h)
      · exact (co1_iUint_i64_ok _ _ hb.1 (by omega) w).mono fun e w' he => co1_int (.int .i64) rfl (fun m a b => ⟨⟨a, b⟩, rfl⟩) he (by intro _ _ _ h; cases h)
    | u8 =>
      by_cases hh : 255 < n
      · exact (co1_iUint_u8_no _ _ hb.1 hh w).mono fun e w' he => co1_keep hn rfl he (by intro _ _ _ h; cases h)
      · exact (co1_iUint_u8_ok _ _ hb.1 (by omega) w).mono fun e w' he => co1_int (.int .u8) rfl (fun m a b => ⟨⟨a, b⟩, rfl⟩) he (by intro _ _ _ h; cases h)
    | u16 =>
      by_cases hh : 65535 < n
      · exact (co1_iUint_u16_no _ _ hb.1 hh w).mono fun e w' he => co1_keep hn rfl he (by intro _ _ _ h; cases h)
      · exact (co1_iUint_u16_ok _ _ hb.1 (by omega) w).mono fun e w' he => co1_int (.int .u16) rfl (fun m a b => ⟨⟨a, b⟩, rfl⟩) he (by intro _ _ _ h; cases h)
    | u32 =>
      by_cases hh : 4294967295 < n
      · exact (co1_iUint_u32_no _ _ hb.1 hh w).mono fun e w' he => co1_keep hn rfl he (by intro _ _ _ h; cases h)
      · exact (co1_iUint_u32_ok _ _ hb.1 (by omega) w).mono fun e w' he => co1_int (.int .u32) rfl (fun m a b => ⟨⟨a, b⟩, rfl⟩) he (by intro _ _ _ h; cases h)
    | u64 => exact (co1_iUint_u64_ok _ _ hb.1 hb.2 w).mono fun e w' he => co1_int (.int .u64) rfl (fun m a b => ⟨⟨a, b⟩, rfl⟩) he (by intro _ _ _ h; cases h)

set_option maxRecDepth 100000 in
set_option maxHeartbeats 1000000 in
theorem co1_iFloat (x : Nat) (hn : (SV.iFloat x).wf) (y : SV) (hy : y ≠ .null) (v : Value) (w : World) (h : Rep w y v) :
    Calls Try.prog 56 #[.iface 73 (.float .f64 x), v] w (Co1Post (.iFloat x) y w) := by
  cases y with
  | null => exact absurd rfl hy
  | bool b =>
    obtain rfl : v = _ := h
    exact (co1_iFloat_bool _ _ w).mono fun e w' he => co1_keep hn rfl he (by intro _ _ _ h; cases h)
  | str s =>
    obtain rfl : v = _ := h
    exact (co1_iFloat_str _ _ w).mono fun e w' he => co1_keep hn rfl he (by intro _ _ _ h; cases h)
  | blob l =>
    obtain ⟨a, cap, rfl, _⟩ := h
    exact (co1_iFloat_blob _ _ w).mono fun e w' he => co1_keep hn rfl he (by intro _ _ _ h; cases h)
  | iInt m =>
    obtain rfl : v = _ := h
    exact (co1_iFloat_iInt _ _ w).mono fun e w' he => co1_keep hn rfl he (by intro _ _ _ h; cases h)
  | iRune m =>
    obtain rfl : v = _ := h
    exact (co1_iFloat_iRune _ _ w).mono fun e w' he => co1_keep hn rfl he (by intro _ _ _ h; cases h)
  | iUint m =>
    obtain rfl : v = _ := h
    exact (co1_iFloat_iUint _ _ w).mono fun e w' he => co1_keep hn rfl he (by intro _ _ _ h; cases h)
  | iFloat g =>
    obtain rfl : v = _ := h
    exact (co1_iFloat_iFloat _ _ w).mono fun e w' he => co1_keep hn rfl he (by intro _ _ _ h; cases h)
  | f64 g =>
    obtain rfl : v = _ := h
    exact (co1_iFloat_f64 _ _ w).mono fun e w' he => co1_new (.f64 x) rfl hn rfl he (by intro _ _ _ h; cases h)
  | f32 g =>
    obtain rfl : v = _ := h
    cases h3 : (Ieee.double.read x).isNaN with
    | true =>
      refine (co1_iFloat_f32_nan x _ h3 w).mono ?_
      rintro e w' ⟨W, rfl, hb⟩
      exact ⟨.f32 (nan32 W x), _, rfl, nan32_lt W x, rfl, (fun hh => absurd hh (by simp [SV.isLit])), (by intro _ _ _ h; cases h), hb⟩
    | false =>
      cases hi : (Ieee.single.read (Flt.down x)).isInfinity with
      | false =>
        exact (co1_iFloat_f32_num x _ (by rw [hi]; rfl) h3 w).mono fun e w' he => co1_new (.f32 (Flt.down x)) rfl (down_lt x) rfl he (by intro _ _ _ h; cases h)
      | true =>
        cases hd : (Ieee.double.read x).isInfinity with
        | true => exact (co1_iFloat_f32_num x _ (by rw [hi, hd]; rfl) h3 w).mono fun e w' he => co1_new (.f32 (Flt.down x)) rfl (down_lt x) rfl he (by intro _ _ _ h; cases h)
        | false =>
          refine (co1_iFloat_f32_over x _ hi hd h3 w).mono ?_
          rintro e w' ⟨W, rfl, hb⟩
          exact ⟨.f32 (over32 W x), _, rfl, over32_lt W x, rfl, (fun hh => absurd hh (by simp [SV.isLit])), (by intro _ _ _ h; cases h), hb⟩
  | int q m =>
    obtain rfl : v = _ := h
    cases q with
    | i8 => exact (co1_iFloat_i8 _ _ w).mono fun e w' he => co1_keep hn rfl he (by intro _ _ _ h; cases h)
    | i16 => exact (co1_iFloat_i16 _ _ w).mono fun e w' he => co1_keep hn rfl he (by intro _ _ _ h; cases h)
    | i32 => exact (co1_iFloat_i32 _ _ w).mono fun e w' he => co1_keep hn rfl he (by intro _ _ _ h; cases h)
    | i64 => exact (co1_iFloat_i64 _ _ w).mono fun e w' he => co1_keep hn rfl he (by intro _ _ _ h; cases h)
    | u8 => exact (co1_iFloat_u8 _ _ w).mono fun e w' he => co1_keep hn rfl he (by intro _ _ _ h; cases h)
    | u16 => exact (co1_iFloat_u16 _ _ w).mono fun e w' he => co1_keep hn rfl he (by intro _ _ _ h; cases h)
    | u32 => exact (co1_iFloat_u32 _ _ w).mono fun e w' he => co1_keep hn rfl he (by intro _ _ _ h; cases h)
    | u64 => exact (co1_iFloat_u64 _ _ w).mono fun e w' he => co1_keep hn rfl he (by intro _ _ _ h; cases h)

set_option maxRecDepth 100000 in
set_option maxHeartbeats 1000000 in
theorem coerce1_any (x y : SV) (hx : x.wf) (u v : Value) (w : World) (hu : Rep w x u) (h : Rep w y v) : Calls Try.prog 56 #[u, v] w (Co1Post x y w) := by
  by_cases hy : y = .null
  · subst hy
    obtain rfl : v = _ := h
    exact (co1_nilr u w).mono fun e w' he => co1_keep hx hu he (by intro _ _ _ _ h; cases h)
  · cases x with
    | null =>
      obtain rfl : u = _ := hu
      obtain ⟨V, z, rfl⟩ := rep_iface h hy
      exact (co1_nill V z w).mono fun e w' he => co1_keep hx rfl he (by intro _ _ _ h; cases h)
    | iInt n => obtain rfl : u = _ := hu; exact co1_iInt n hx y hy v w h
    | iRune n => obtain rfl : u = _ := hu; exact co1_iRune n hx y hy v w h
    | iUint n => obtain rfl : u = _ := hu; exact co1_iUint n hx y hy v w h
    | iFloat n => obtain rfl : u = _ := hu; exact co1_iFloat n hx y hy v w h
    | bool b =>
      obtain rfl : u = _ := hu
      obtain ⟨V, z, rfl⟩ := rep_iface h hy
      exact (co1_conc _ V _ z (by decide) (by decide) (by decide) (by decide) w).mono fun e w' he => co1_keep hx rfl he (by intro _ _ _ h; cases h)
    | f32 g =>
      obtain rfl : u = _ := hu
      obtain ⟨V, z, rfl⟩ := rep_iface h hy
      exact (co1_conc _ V _ z (by decide) (by decide) (by decide) (by decide) w).mono fun e w' he => co1_keep hx rfl he (by intro _ _ _ h; cases h)
    | f64 g =>
      obtain rfl : u = _ := hu
      obtain ⟨V, z, rfl⟩ := rep_iface h hy
      exact (co1_conc _ V _ z (by decide) (by decide) (by decide) (by decide) w).mono fun e w' he => co1_keep hx rfl he (by intro _ _ _ h; cases h)
    | str s =>
      obtain rfl : u = _ := hu
      obtain ⟨V, z, rfl⟩ := rep_iface h hy
      exact (co1_conc _ V _ z (by decide) (by decide) (by decide) (by decide) w).mono fun e w' he => co1_keep hx rfl he (by intro _ _ _ h; cases h)
    | blob l =>
      obtain ⟨V, z, rfl⟩ := rep_iface h hy
      have hu' := hu
      obtain ⟨a, cap, rfl, _⟩ := hu'
      exact (co1_conc _ V _ z (by decide) (by decide) (by decide) (by decide) w).mono fun e w' he => co1_keep hx hu he (by intro _ _ _ h; cases h)
    | int q n =>
      obtain rfl : u = _ := hu
      obtain ⟨V, z, rfl⟩ := rep_iface h hy
      exact (co1_conc (kindT q) V _ z (by cases q <;> decide) (by cases q <;> decide) (by cases q <;> decide) (by cases q <;> decide) w).mono fun e w' he => co1_keep hx rfl he (by intro _ _ _ h; cases h)

end Go.Proofs.Ytamekjbdpcflfaa
