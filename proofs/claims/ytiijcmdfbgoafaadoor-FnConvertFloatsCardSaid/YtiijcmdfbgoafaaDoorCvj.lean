/-
  ql.convert to each type, of every value that is not NULL. PRINTED BY wip/tpl/gen_cvt.py.
-/
import Derived.Test.YtiijcmdfbgoafaaDoorBk
import Derived.Test.YtiijcmdfbgoafaaDoorCvj0
import Derived.Test.YtiijcmdfbgoafaaDoorCvif
import Derived.Test.YtiijcmdfbgoafaaDoorCvbool
import Derived.Test.YtiijcmdfbgoafaaDoorCvi8
import Derived.Test.YtiijcmdfbgoafaaDoorCvi16
import Derived.Test.YtiijcmdfbgoafaaDoorCvi32
import Derived.Test.YtiijcmdfbgoafaaDoorCvi64
import Derived.Test.YtiijcmdfbgoafaaDoorCvu8
import Derived.Test.YtiijcmdfbgoafaaDoorCvu16
import Derived.Test.YtiijcmdfbgoafaaDoorCvu32
import Derived.Test.YtiijcmdfbgoafaaDoorCvu64
import Derived.Test.YtiijcmdfbgoafaaDoorCvf32
import Derived.Test.YtiijcmdfbgoafaaDoorCvf64
import Derived.Test.YtiijcmdfbgoafaaDoorCvstr
import Derived.Test.YtiijcmdfbgoafaaDoorCvblob
namespace Go.Proofs.YtiijcmdfbgoafaaDoor
open Go.RowKit

theorem cvt_bool (y : SV) (hy : y.wf) (hs : y.small) (hn : y ≠ .null) (v : Value) (w : World) (h : Rep w y v) : Calls Tryd.prog 57 #[v, .int .i64 98] w (CvPost (.bool) y w) := by
  cases y with
  | null => exact absurd rfl hn
  | bool b =>
    obtain rfl : v = _ := h
    exact (cv_bool_bool b w).mono fun e w' h => cv_yes0 (.bool b) (fun _ => rfl) trivial rfl trivial (fun _ => rfl) h
  | int r n =>
    obtain rfl : v = _ := h
    obtain ⟨g1, g2⟩ := hy
    cases r
    case i8 => exact (cv_bool_i8 n w).mono fun e w' h => .inr ⟨rfl, h⟩
    case i16 => exact (cv_bool_i16 n w).mono fun e w' h => .inr ⟨rfl, h⟩
    case i32 => exact (cv_bool_i32 n w).mono fun e w' h => .inr ⟨rfl, h⟩
    case i64 => exact (cv_bool_i64 n w).mono fun e w' h => .inr ⟨rfl, h⟩
    case u8 => exact (cv_bool_u8 n w).mono fun e w' h => .inr ⟨rfl, h⟩
    case u16 => exact (cv_bool_u16 n w).mono fun e w' h => .inr ⟨rfl, h⟩
    case u32 => exact (cv_bool_u32 n w).mono fun e w' h => .inr ⟨rfl, h⟩
    case u64 => exact (cv_bool_u64 n w).mono fun e w' h => .inr ⟨rfl, h⟩
  | f32 x =>
    obtain rfl : v = _ := h
    exact (cv_bool_f32 x w).mono fun e w' h => .inr ⟨rfl, h⟩
  | f64 x =>
    obtain rfl : v = _ := h
    exact (cv_bool_f64 x w).mono fun e w' h => .inr ⟨rfl, h⟩
  | iFloat x =>
    obtain rfl : v = _ := h
    exact (cv_bool_iFloat x w).mono fun e w' h => .inr ⟨rfl, h⟩
  | iInt n =>
    obtain rfl : v = _ := h
    exact (cv_bool_iInt n w).mono fun e w' h => .inr ⟨rfl, h⟩
  | iRune n =>
    obtain rfl : v = _ := h
    exact (cv_bool_iRune n w).mono fun e w' h => .inr ⟨rfl, h⟩
  | iUint n =>
    obtain rfl : v = _ := h
    exact (cv_bool_iUint n w).mono fun e w' h => .inr ⟨rfl, h⟩
  | str s =>
    obtain rfl : v = _ := h
    exact (cv_bool_str s w).mono fun e w' h => .inr ⟨rfl, h⟩
  | blob l =>
    obtain ⟨a, cap, rfl, _, _⟩ := h
    exact (cv_bool_blob a l cap w).mono fun e w' h => .inr ⟨rfl, h⟩

theorem cvt_i8 (y : SV) (hy : y.wf) (hs : y.small) (hn : y ≠ .null) (v : Value) (w : World) (h : Rep w y v) : Calls Tryd.prog 57 #[v, .int .i64 105] w (CvPost (.int .i8) y w) := by
  cases y with
  | null => exact absurd rfl hn
  | bool b =>
    obtain rfl : v = _ := h
    exact (cv_i8_bool b w).mono fun e w' h => .inr ⟨rfl, h⟩
  | int r n =>
    obtain rfl : v = _ := h
    obtain ⟨g1, g2⟩ := hy
    cases r
    case i8 => exact (cv_i8_i8 n w).mono fun e w' h => cv_yes0 (.int .i8 n) (fun _ => rfl) ⟨g1, g2⟩ rfl trivial (fun _ => rfl) h
    case i16 => exact (cv_i8_i16 n w).mono fun e w' h => cv_yes0 (.int .i8 (IntKind.i8.wrap n)) (fun h => by simp [SV.kd] at h) (wrap_in _ _) rfl trivial (fun _ => rfl) h
    case i32 => exact (cv_i8_i32 n w).mono fun e w' h => cv_yes0 (.int .i8 (IntKind.i8.wrap n)) (fun h => by simp [SV.kd] at h) (wrap_in _ _) rfl trivial (fun _ => rfl) h
    case i64 => exact (cv_i8_i64 n w).mono fun e w' h => cv_yes0 (.int .i8 (IntKind.i8.wrap n)) (fun h => by simp [SV.kd] at h) (wrap_in _ _) rfl trivial (fun _ => rfl) h
    case u8 => exact (cv_i8_u8 n w).mono fun e w' h => cv_yes0 (.int .i8 (IntKind.i8.wrap n)) (fun h => by simp [SV.kd] at h) (wrap_in _ _) rfl trivial (fun _ => rfl) h
    case u16 => exact (cv_i8_u16 n w).mono fun e w' h => cv_yes0 (.int .i8 (IntKind.i8.wrap n)) (fun h => by simp [SV.kd] at h) (wrap_in _ _) rfl trivial (fun _ => rfl) h
    case u32 => exact (cv_i8_u32 n w).mono fun e w' h => cv_yes0 (.int .i8 (IntKind.i8.wrap n)) (fun h => by simp [SV.kd] at h) (wrap_in _ _) rfl trivial (fun _ => rfl) h
    case u64 => exact (cv_i8_u64 n w).mono fun e w' h => cv_yes0 (.int .i8 (IntKind.i8.wrap n)) (fun h => by simp [SV.kd] at h) (wrap_in _ _) rfl trivial (fun _ => rfl) h
  | f32 x =>
    obtain rfl : v = _ := h
    exact (cv_i8_f32 x w).mono fun e w' h => cv_yesN (.int .i8 (fti .f32 x .i8 w)) (fti_of32 _ _ _) (fti_in _ _ _ _) rfl trivial (fun _ => rfl) h
  | f64 x =>
    obtain rfl : v = _ := h
    exact (cv_i8_f64 x w).mono fun e w' h => cv_yesN (.int .i8 (fti .f64 x .i8 w)) (fti_of64 _ _ _) (fti_in _ _ _ _) rfl trivial (fun _ => rfl) h
  | str s =>
    obtain rfl : v = _ := h
    exact (cv_i8_str s w).mono fun e w' h => .inr ⟨rfl, h⟩
  | blob l =>
    obtain ⟨a, cap, rfl, _, _⟩ := h
    exact (cv_i8_blob a l cap w).mono fun e w' h => .inr ⟨rfl, h⟩
  | iInt n =>
    obtain rfl : v = _ := h
    have hy' : IntKind.min .i64 ≤ n ∧ n ≤ IntKind.max .i64 := hy
    rw [q_i64.1, q_i64.2] at hy'
    obtain ⟨g1, g2⟩ := hy'
    by_cases clo : n < -128
    · exact (cv_i8_iInt_lo n (by omega) clo w).mono fun e w' h => .inr ⟨rfl, h⟩
    by_cases chi : 127 < n
    · exact (cv_i8_iInt_hi n chi (by omega) w).mono fun e w' h => .inr ⟨rfl, h⟩
    exact (cv_i8_iInt_ok n (by omega) (by omega) w).mono fun e w' h => cv_yes0 (.int .i8 (IntKind.i8.wrap n)) (fun h => by simp [SV.kd] at h) (wrap_in _ _) rfl trivial (fun _ => rfl) h
  | iRune n =>
    obtain rfl : v = _ := h
    have hy' : IntKind.min .i32 ≤ n ∧ n ≤ IntKind.max .i32 := hy
    rw [q_i32.1, q_i32.2] at hy'
    obtain ⟨g1, g2⟩ := hy'
    by_cases clo : n < -128
    · exact (cv_i8_iRune_lo n (by omega) clo w).mono fun e w' h => .inr ⟨rfl, h⟩
    by_cases chi : 127 < n
    · exact (cv_i8_iRune_hi n chi (by omega) w).mono fun e w' h => .inr ⟨rfl, h⟩
    exact (cv_i8_iRune_ok n (by omega) (by omega) w).mono fun e w' h => cv_yes0 (.int .i8 (IntKind.i8.wrap n)) (fun h => by simp [SV.kd] at h) (wrap_in _ _) rfl trivial (fun _ => rfl) h
  | iUint n =>
    obtain rfl : v = _ := h
    have hy' : IntKind.min .u64 ≤ n ∧ n ≤ IntKind.max .u64 := hy
    rw [q_u64.1, q_u64.2] at hy'
    obtain ⟨g1, g2⟩ := hy'
    by_cases chi : 127 < n
    · exact (cv_i8_iUint_hi n chi (by omega) w).mono fun e w' h => .inr ⟨rfl, h⟩
    exact (cv_i8_iUint_ok n (by omega) (by omega) w).mono fun e w' h => cv_yes0 (.int .i8 (IntKind.i8.wrap n)) (fun h => by simp [SV.kd] at h) (wrap_in _ _) rfl trivial (fun _ => rfl) h
  | iFloat x =>
    obtain rfl : v = _ := h
    exact (cv_i8_iFloat x w).mono fun e w' h => cv_yesI (fun h => by simp [SV.kd] at h) rfl h

theorem cvt_i16 (y : SV) (hy : y.wf) (hs : y.small) (hn : y ≠ .null) (v : Value) (w : World) (h : Rep w y v) : Calls Tryd.prog 57 #[v, .int .i64 106] w (CvPost (.int .i16) y w) := by
  cases y with
  | null => exact absurd rfl hn
  | bool b =>
    obtain rfl : v = _ := h
    exact (cv_i16_bool b w).mono fun e w' h => .inr ⟨rfl, h⟩
  | int r n =>
    obtain rfl : v = _ := h
    obtain ⟨g1, g2⟩ := hy
    cases r
    case i8 => exact (cv_i16_i8 n w).mono fun e w' h => cv_yes0 (.int .i16 (IntKind.i16.wrap n)) (fun h => by simp [SV.kd] at h) (wrap_in _ _) rfl trivial (fun _ => rfl) h
    case i16 => exact (cv_i16_i16 n w).mono fun e w' h => cv_yes0 (.int .i16 n) (fun _ => rfl) ⟨g1, g2⟩ rfl trivial (fun _ => rfl) h
    case i32 => exact (cv_i16_i32 n w).mono fun e w' h => cv_yes0 (.int .i16 (IntKind.i16.wrap n)) (fun h => by simp [SV.kd] at h) (wrap_in _ _) rfl trivial (fun _ => rfl) h
    case i64 => exact (cv_i16_i64 n w).mono fun e w' h => cv_yes0 (.int .i16 (IntKind.i16.wrap n)) (fun h => by simp [SV.kd] at h) (wrap_in _ _) rfl trivial (fun _ => rfl) h
    case u8 => exact (cv_i16_u8 n w).mono fun e w' h => cv_yes0 (.int .i16 (IntKind.i16.wrap n)) (fun h => by simp [SV.kd] at h) (wrap_in _ _) rfl trivial (fun _ => rfl) h
    case u16 => exact (cv_i16_u16 n w).mono fun e w' h => cv_yes0 (.int .i16 (IntKind.i16.wrap n)) (fun h => by simp [SV.kd] at h) (wrap_in _ _) rfl trivial (fun _ => rfl) h
    case u32 => exact (cv_i16_u32 n w).mono fun e w' h => cv_yes0 (.int .i16 (IntKind.i16.wrap n)) (fun h => by simp [SV.kd] at h) (wrap_in _ _) rfl trivial (fun _ => rfl) h
    case u64 => exact (cv_i16_u64 n w).mono fun e w' h => cv_yes0 (.int .i16 (IntKind.i16.wrap n)) (fun h => by simp [SV.kd] at h) (wrap_in _ _) rfl trivial (fun _ => rfl) h
  | f32 x =>
    obtain rfl : v = _ := h
    exact (cv_i16_f32 x w).mono fun e w' h => cv_yesN (.int .i16 (fti .f32 x .i16 w)) (fti_of32 _ _ _) (fti_in _ _ _ _) rfl trivial (fun _ => rfl) h
  | f64 x =>
    obtain rfl : v = _ := h
    exact (cv_i16_f64 x w).mono fun e w' h => cv_yesN (.int .i16 (fti .f64 x .i16 w)) (fti_of64 _ _ _) (fti_in _ _ _ _) rfl trivial (fun _ => rfl) h
  | str s =>
    obtain rfl : v = _ := h
    exact (cv_i16_str s w).mono fun e w' h => .inr ⟨rfl, h⟩
  | blob l =>
    obtain ⟨a, cap, rfl, _, _⟩ := h
    exact (cv_i16_blob a l cap w).mono fun e w' h => .inr ⟨rfl, h⟩
  | iInt n =>
    obtain rfl : v = _ := h
    have hy' : IntKind.min .i64 ≤ n ∧ n ≤ IntKind.max .i64 := hy
    rw [q_i64.1, q_i64.2] at hy'
    obtain ⟨g1, g2⟩ := hy'
    by_cases clo : n < -32768
    · exact (cv_i16_iInt_lo n (by omega) clo w).mono fun e w' h => .inr ⟨rfl, h⟩
    by_cases chi : 32767 < n
    · exact (cv_i16_iInt_hi n chi (by omega) w).mono fun e w' h => .inr ⟨rfl, h⟩
    exact (cv_i16_iInt_ok n (by omega) (by omega) w).mono fun e w' h => cv_yes0 (.int .i16 (IntKind.i16.wrap n)) (fun h => by simp [SV.kd] at h) (wrap_in _ _) rfl trivial (fun _ => rfl) h
  | iRune n =>
    obtain rfl : v = _ := h
    have hy' : IntKind.min .i32 ≤ n ∧ n ≤ IntKind.max .i32 := hy
    rw [q_i32.1, q_i32.2] at hy'
    obtain ⟨g1, g2⟩ := hy'
    by_cases clo : n < -32768
    · exact (cv_i16_iRune_lo n (by omega) clo w).mono fun e w' h => .inr ⟨rfl, h⟩
    by_cases chi : 32767 < n
    · exact (cv_i16_iRune_hi n chi (by omega) w).mono fun e w' h => .inr ⟨rfl, h⟩
    exact (cv_i16_iRune_ok n (by omega) (by omega) w).mono fun e w' h => cv_yes0 (.int .i16 (IntKind.i16.wrap n)) (fun h => by simp [SV.kd] at h) (wrap_in _ _) rfl trivial (fun _ => rfl) h
  | iUint n =>
    obtain rfl : v = _ := h
    have hy' : IntKind.min .u64 ≤ n ∧ n ≤ IntKind.max .u64 := hy
    rw [q_u64.1, q_u64.2] at hy'
    obtain ⟨g1, g2⟩ := hy'
    by_cases chi : 32767 < n
    · exact (cv_i16_iUint_hi n chi (by omega) w).mono fun e w' h => .inr ⟨rfl, h⟩
    exact (cv_i16_iUint_ok n (by omega) (by omega) w).mono fun e w' h => cv_yes0 (.int .i16 (IntKind.i16.wrap n)) (fun h => by simp [SV.kd] at h) (wrap_in _ _) rfl trivial (fun _ => rfl) h
  | iFloat x =>
    obtain rfl : v = _ := h
    exact (cv_i16_iFloat x w).mono fun e w' h => cv_yesI (fun h => by simp [SV.kd] at h) rfl h

theorem cvt_i32 (y : SV) (hy : y.wf) (hs : y.small) (hn : y ≠ .null) (v : Value) (w : World) (h : Rep w y v) : Calls Tryd.prog 57 #[v, .int .i64 107] w (CvPost (.int .i32) y w) := by
  cases y with
  | null => exact absurd rfl hn
  | bool b =>
    obtain rfl : v = _ := h
    exact (cv_i32_bool b w).mono fun e w' h => .inr ⟨rfl, h⟩
  | int r n =>
    obtain rfl : v = _ := h
    obtain ⟨g1, g2⟩ := hy
    cases r
    case i8 => exact (cv_i32_i8 n w).mono fun e w' h => cv_yes0 (.int .i32 (wrap32 n)) (fun h => by simp [SV.kd] at h) (wrap32_in n) rfl trivial (fun _ => rfl) h
    case i16 => exact (cv_i32_i16 n w).mono fun e w' h => cv_yes0 (.int .i32 (wrap32 n)) (fun h => by simp [SV.kd] at h) (wrap32_in n) rfl trivial (fun _ => rfl) h
    case i32 => exact (cv_i32_i32 n w).mono fun e w' h => cv_yes0 (.int .i32 n) (fun _ => rfl) ⟨g1, g2⟩ rfl trivial (fun _ => rfl) h
    case i64 => exact (cv_i32_i64 n w).mono fun e w' h => cv_yes0 (.int .i32 (wrap32 n)) (fun h => by simp [SV.kd] at h) (wrap32_in n) rfl trivial (fun _ => rfl) h
    case u8 => exact (cv_i32_u8 n w).mono fun e w' h => cv_yes0 (.int .i32 (wrap32 n)) (fun h => by simp [SV.kd] at h) (wrap32_in n) rfl trivial (fun _ => rfl) h
    case u16 => exact (cv_i32_u16 n w).mono fun e w' h => cv_yes0 (.int .i32 (wrap32 n)) (fun h => by simp [SV.kd] at h) (wrap32_in n) rfl trivial (fun _ => rfl) h
    case u32 => exact (cv_i32_u32 n w).mono fun e w' h => cv_yes0 (.int .i32 (wrap32 n)) (fun h => by simp [SV.kd] at h) (wrap32_in n) rfl trivial (fun _ => rfl) h
    case u64 => exact (cv_i32_u64 n w).mono fun e w' h => cv_yes0 (.int .i32 (wrap32 n)) (fun h => by simp [SV.kd] at h) (wrap32_in n) rfl trivial (fun _ => rfl) h
  | f32 x =>
    obtain rfl : v = _ := h
    exact (cv_i32_f32 x w).mono fun e w' h => cv_yesN (.int .i32 (fti .f32 x .i32 w)) (fti_of32 _ _ _) (fti_in _ _ _ _) rfl trivial (fun _ => rfl) h
  | f64 x =>
    obtain rfl : v = _ := h
    exact (cv_i32_f64 x w).mono fun e w' h => cv_yesN (.int .i32 (fti .f64 x .i32 w)) (fti_of64 _ _ _) (fti_in _ _ _ _) rfl trivial (fun _ => rfl) h
  | str s =>
    obtain rfl : v = _ := h
    exact (cv_i32_str s w).mono fun e w' h => .inr ⟨rfl, h⟩
  | blob l =>
    obtain ⟨a, cap, rfl, _, _⟩ := h
    exact (cv_i32_blob a l cap w).mono fun e w' h => .inr ⟨rfl, h⟩
  | iInt n =>
    obtain rfl : v = _ := h
    have hy' : IntKind.min .i64 ≤ n ∧ n ≤ IntKind.max .i64 := hy
    rw [q_i64.1, q_i64.2] at hy'
    obtain ⟨g1, g2⟩ := hy'
    by_cases clo : n < -2147483648
    · exact (cv_i32_iInt_lo n (by omega) clo w).mono fun e w' h => .inr ⟨rfl, h⟩
    by_cases chi : 2147483647 < n
    · exact (cv_i32_iInt_hi n chi (by omega) w).mono fun e w' h => .inr ⟨rfl, h⟩
    exact (cv_i32_iInt_ok n (by omega) (by omega) w).mono fun e w' h => cv_yes0 (.int .i32 (wrap32 n)) (fun h => by simp [SV.kd] at h) (wrap32_in n) rfl trivial (fun _ => rfl) h
  | iRune n =>
    obtain rfl : v = _ := h
    have hy' : IntKind.min .i32 ≤ n ∧ n ≤ IntKind.max .i32 := hy
    rw [q_i32.1, q_i32.2] at hy'
    obtain ⟨g1, g2⟩ := hy'
    exact (cv_i32_iRune_ok n (by omega) (by omega) w).mono fun e w' h => cv_yes0 (.int .i32 n) (fun h => by simp [SV.kd] at h) hy rfl trivial (fun _ => rfl) h
  | iUint n =>
    obtain rfl : v = _ := h
    have hy' : IntKind.min .u64 ≤ n ∧ n ≤ IntKind.max .u64 := hy
    rw [q_u64.1, q_u64.2] at hy'
    obtain ⟨g1, g2⟩ := hy'
    by_cases chi : 2147483647 < n
    · exact (cv_i32_iUint_hi n chi (by omega) w).mono fun e w' h => .inr ⟨rfl, h⟩
    exact (cv_i32_iUint_ok n (by omega) (by omega) w).mono fun e w' h => cv_yes0 (.int .i32 (wrap32 n)) (fun h => by simp [SV.kd] at h) (wrap32_in n) rfl trivial (fun _ => rfl) h
  | iFloat x =>
    obtain rfl : v = _ := h
    exact (cv_i32_iFloat x w).mono fun e w' h => cv_yesI (fun h => by simp [SV.kd] at h) rfl h

theorem cvt_i64 (y : SV) (hy : y.wf) (hs : y.small) (hn : y ≠ .null) (v : Value) (w : World) (h : Rep w y v) : Calls Tryd.prog 57 #[v, .int .i64 108] w (CvPost (.int .i64) y w) := by
  cases y with
  | null => exact absurd rfl hn
  | bool b =>
    obtain rfl : v = _ := h
    exact (cv_i64_bool b w).mono fun e w' h => .inr ⟨rfl, h⟩
  | int r n =>
    obtain rfl : v = _ := h
    obtain ⟨g1, g2⟩ := hy
    cases r
    case i8 => exact (cv_i64_i8 n w).mono fun e w' h => cv_yes0 (.int .i64 (wrap64 n)) (fun h => by simp [SV.kd] at h) (wrap64_in n) rfl trivial (fun _ => rfl) h
    case i16 => exact (cv_i64_i16 n w).mono fun e w' h => cv_yes0 (.int .i64 (wrap64 n)) (fun h => by simp [SV.kd] at h) (wrap64_in n) rfl trivial (fun _ => rfl) h
    case i32 => exact (cv_i64_i32 n w).mono fun e w' h => cv_yes0 (.int .i64 (wrap64 n)) (fun h => by simp [SV.kd] at h) (wrap64_in n) rfl trivial (fun _ => rfl) h
    case i64 => exact (cv_i64_i64 n w).mono fun e w' h => cv_yes0 (.int .i64 n) (fun _ => rfl) ⟨g1, g2⟩ rfl trivial (fun _ => rfl) h
    case u8 => exact (cv_i64_u8 n w).mono fun e w' h => cv_yes0 (.int .i64 (wrap64 n)) (fun h => by simp [SV.kd] at h) (wrap64_in n) rfl trivial (fun _ => rfl) h
    case u16 => exact (cv_i64_u16 n w).mono fun e w' h => cv_yes0 (.int .i64 (wrap64 n)) (fun h => by simp [SV.kd] at h) (wrap64_in n) rfl trivial (fun _ => rfl) h
    case u32 => exact (cv_i64_u32 n w).mono fun e w' h => cv_yes0 (.int .i64 (wrap64 n)) (fun h => by simp [SV.kd] at h) (wrap64_in n) rfl trivial (fun _ => rfl) h
    case u64 => exact (cv_i64_u64 n w).mono fun e w' h => cv_yes0 (.int .i64 (wrap64 n)) (fun h => by simp [SV.kd] at h) (wrap64_in n) rfl trivial (fun _ => rfl) h
  | f32 x =>
    obtain rfl : v = _ := h
    exact (cv_i64_f32 x w).mono fun e w' h => cv_yesN (.int .i64 (fti .f32 x .i64 w)) (fti_of32 _ _ _) (fti_in _ _ _ _) rfl trivial (fun _ => rfl) h
  | f64 x =>
    obtain rfl : v = _ := h
    exact (cv_i64_f64 x w).mono fun e w' h => cv_yesN (.int .i64 (fti .f64 x .i64 w)) (fti_of64 _ _ _) (fti_in _ _ _ _) rfl trivial (fun _ => rfl) h
  | str s =>
    obtain rfl : v = _ := h
    exact (cv_i64_str s w).mono fun e w' h => .inr ⟨rfl, h⟩
  | blob l =>
    obtain ⟨a, cap, rfl, _, _⟩ := h
    exact (cv_i64_blob a l cap w).mono fun e w' h => .inr ⟨rfl, h⟩
  | iInt n =>
    obtain rfl : v = _ := h
    have hy' : IntKind.min .i64 ≤ n ∧ n ≤ IntKind.max .i64 := hy
    rw [q_i64.1, q_i64.2] at hy'
    obtain ⟨g1, g2⟩ := hy'
    exact (cv_i64_iInt_ok n (by omega) (by omega) w).mono fun e w' h => cv_yes0 (.int .i64 n) (fun h => by simp [SV.kd] at h) hy rfl trivial (fun _ => rfl) h
  | iRune n =>
    obtain rfl : v = _ := h
    have hy' : IntKind.min .i32 ≤ n ∧ n ≤ IntKind.max .i32 := hy
    rw [q_i32.1, q_i32.2] at hy'
    obtain ⟨g1, g2⟩ := hy'
    exact (cv_i64_iRune_ok n (by omega) (by omega) w).mono fun e w' h => cv_yes0 (.int .i64 (wrap64 n)) (fun h => by simp [SV.kd] at h) (wrap64_in n) rfl trivial (fun _ => rfl) h
  | iUint n =>
    obtain rfl : v = _ := h
    have hy' : IntKind.min .u64 ≤ n ∧ n ≤ IntKind.max .u64 := hy
    rw [q_u64.1, q_u64.2] at hy'
    obtain ⟨g1, g2⟩ := hy'
    by_cases chi : 9223372036854775807 < n
    · exact (cv_i64_iUint_hi n chi (by omega) w).mono fun e w' h => .inr ⟨rfl, h⟩
    exact (cv_i64_iUint_ok n (by omega) (by omega) w).mono fun e w' h => cv_yes0 (.int .i64 (wrap64 n)) (fun h => by simp [SV.kd] at h) (wrap64_in n) rfl trivial (fun _ => rfl) h
  | iFloat x =>
    obtain rfl : v = _ := h
    exact (cv_i64_iFloat x w).mono fun e w' h => cv_yesI (fun h => by simp [SV.kd] at h) rfl h

theorem cvt_u8 (y : SV) (hy : y.wf) (hs : y.small) (hn : y ≠ .null) (v : Value) (w : World) (h : Rep w y v) : Calls Tryd.prog 57 #[v, .int .i64 117] w (CvPost (.int .u8) y w) := by
  cases y with
  | null => exact absurd rfl hn
  | bool b =>
    obtain rfl : v = _ := h
    exact (cv_u8_bool b w).mono fun e w' h => .inr ⟨rfl, h⟩
  | int r n =>
    obtain rfl : v = _ := h
    obtain ⟨g1, g2⟩ := hy
    cases r
    case i8 => exact (cv_u8_i8 n w).mono fun e w' h => cv_yes0 (.int .u8 (IntKind.u8.wrap n)) (fun h => by simp [SV.kd] at h) (wrap_in _ _) rfl trivial (fun _ => rfl) h
    case i16 => exact (cv_u8_i16 n w).mono fun e w' h => cv_yes0 (.int .u8 (IntKind.u8.wrap n)) (fun h => by simp [SV.kd] at h) (wrap_in _ _) rfl trivial (fun _ => rfl) h
    case i32 => exact (cv_u8_i32 n w).mono fun e w' h => cv_yes0 (.int .u8 (IntKind.u8.wrap n)) (fun h => by simp [SV.kd] at h) (wrap_in _ _) rfl trivial (fun _ => rfl) h
    case i64 => exact (cv_u8_i64 n w).mono fun e w' h => cv_yes0 (.int .u8 (IntKind.u8.wrap n)) (fun h => by simp [SV.kd] at h) (wrap_in _ _) rfl trivial (fun _ => rfl) h
    case u8 => exact (cv_u8_u8 n w).mono fun e w' h => cv_yes0 (.int .u8 n) (fun _ => rfl) ⟨g1, g2⟩ rfl trivial (fun _ => rfl) h
    case u16 => exact (cv_u8_u16 n w).mono fun e w' h => cv_yes0 (.int .u8 (IntKind.u8.wrap n)) (fun h => by simp [SV.kd] at h) (wrap_in _ _) rfl trivial (fun _ => rfl) h
    case u32 => exact (cv_u8_u32 n w).mono fun e w' h => cv_yes0 (.int .u8 (IntKind.u8.wrap n)) (fun h => by simp [SV.kd] at h) (wrap_in _ _) rfl trivial (fun _ => rfl) h
    case u64 => exact (cv_u8_u64 n w).mono fun e w' h => cv_yes0 (.int .u8 (IntKind.u8.wrap n)) (fun h => by simp [SV.kd] at h) (wrap_in _ _) rfl trivial (fun _ => rfl) h
  | f32 x =>
    obtain rfl : v = _ := h
    exact (cv_u8_f32 x w).mono fun e w' h => cv_yesN (.int .u8 (fti .f32 x .u8 w)) (fti_of32 _ _ _) (fti_in _ _ _ _) rfl trivial (fun _ => rfl) h
  | f64 x =>
    obtain rfl : v = _ := h
    exact (cv_u8_f64 x w).mono fun e w' h => cv_yesN (.int .u8 (fti .f64 x .u8 w)) (fti_of64 _ _ _) (fti_in _ _ _ _) rfl trivial (fun _ => rfl) h
  | str s =>
    obtain rfl : v = _ := h
    exact (cv_u8_str s w).mono fun e w' h => .inr ⟨rfl, h⟩
  | blob l =>
    obtain ⟨a, cap, rfl, _, _⟩ := h
    exact (cv_u8_blob a l cap w).mono fun e w' h => .inr ⟨rfl, h⟩
  | iInt n =>
    obtain rfl : v = _ := h
    have hy' : IntKind.min .i64 ≤ n ∧ n ≤ IntKind.max .i64 := hy
    rw [q_i64.1, q_i64.2] at hy'
    obtain ⟨g1, g2⟩ := hy'
    by_cases clo : n < 0
    · exact (cv_u8_iInt_lo n (by omega) clo w).mono fun e w' h => .inr ⟨rfl, h⟩
    by_cases chi : 255 < n
    · exact (cv_u8_iInt_hi n chi (by omega) w).mono fun e w' h => .inr ⟨rfl, h⟩
    exact (cv_u8_iInt_ok n (by omega) (by omega) w).mono fun e w' h => cv_yes0 (.int .u8 (IntKind.u8.wrap n)) (fun h => by simp [SV.kd] at h) (wrap_in _ _) rfl trivial (fun _ => rfl) h
  | iRune n =>
    obtain rfl : v = _ := h
    have hy' : IntKind.min .i32 ≤ n ∧ n ≤ IntKind.max .i32 := hy
    rw [q_i32.1, q_i32.2] at hy'
    obtain ⟨g1, g2⟩ := hy'
    by_cases clo : n < 0
    · exact (cv_u8_iRune_lo n (by omega) clo w).mono fun e w' h => .inr ⟨rfl, h⟩
    by_cases chi : 255 < n
    · exact (cv_u8_iRune_hi n chi (by omega) w).mono fun e w' h => .inr ⟨rfl, h⟩
    exact (cv_u8_iRune_ok n (by omega) (by omega) w).mono fun e w' h => cv_yes0 (.int .u8 (IntKind.u8.wrap n)) (fun h => by simp [SV.kd] at h) (wrap_in _ _) rfl trivial (fun _ => rfl) h
  | iUint n =>
    obtain rfl : v = _ := h
    have hy' : IntKind.min .u64 ≤ n ∧ n ≤ IntKind.max .u64 := hy
    rw [q_u64.1, q_u64.2] at hy'
    obtain ⟨g1, g2⟩ := hy'
    by_cases chi : 255 < n
    · exact (cv_u8_iUint_hi n chi (by omega) w).mono fun e w' h => .inr ⟨rfl, h⟩
    exact (cv_u8_iUint_ok n (by omega) (by omega) w).mono fun e w' h => cv_yes0 (.int .u8 (IntKind.u8.wrap n)) (fun h => by simp [SV.kd] at h) (wrap_in _ _) rfl trivial (fun _ => rfl) h
  | iFloat x =>
    obtain rfl : v = _ := h
    exact (cv_u8_iFloat x w).mono fun e w' h => cv_yesI (fun h => by simp [SV.kd] at h) rfl h

theorem cvt_u16 (y : SV) (hy : y.wf) (hs : y.small) (hn : y ≠ .null) (v : Value) (w : World) (h : Rep w y v) : Calls Tryd.prog 57 #[v, .int .i64 118] w (CvPost (.int .u16) y w) := by
  cases y with
  | null => exact absurd rfl hn
  | bool b =>
    obtain rfl : v = _ := h
    exact (cv_u16_bool b w).mono fun e w' h => .inr ⟨rfl, h⟩
  | int r n =>
    obtain rfl : v = _ := h
    obtain ⟨g1, g2⟩ := hy
    cases r
    case i8 => exact (cv_u16_i8 n w).mono fun e w' h => cv_yes0 (.int .u16 (IntKind.u16.wrap n)) (fun h => by simp [SV.kd] at h) (wrap_in _ _) rfl trivial (fun _ => rfl) h
    case i16 => exact (cv_u16_i16 n w).mono fun e w' h => cv_yes0 (.int .u16 (IntKind.u16.wrap n)) (fun h => by simp [SV.kd] at h) (wrap_in _ _) rfl trivial (fun _ => rfl) h
    case i32 => exact (cv_u16_i32 n w).mono fun e w' h => cv_yes0 (.int .u16 (IntKind.u16.wrap n)) (fun h => by simp [SV.kd] at h) (wrap_in _ _) rfl trivial (fun _ => rfl) h
    case i64 => exact (cv_u16_i64 n w).mono fun e w' h => cv_yes0 (.int .u16 (IntKind.u16.wrap n)) (fun h => by simp [SV.kd] at h) (wrap_in _ _) rfl trivial (fun _ => rfl) h
    case u8 => exact (cv_u16_u8 n w).mono fun e w' h => cv_yes0 (.int .u16 (IntKind.u16.wrap n)) (fun h => by simp [SV.kd] at h) (wrap_in _ _) rfl trivial (fun _ => rfl) h
    case u16 => exact (cv_u16_u16 n w).mono fun e w' h => cv_yes0 (.int .u16 n) (fun _ => rfl) ⟨g1, g2⟩ rfl trivial (fun _ => rfl) h
    case u32 => exact (cv_u16_u32 n w).mono fun e w' h => cv_yes0 (.int .u16 (IntKind.u16.wrap n)) (fun h => by simp [SV.kd] at h) (wrap_in _ _) rfl trivial (fun _ => rfl) h
    case u64 => exact (cv_u16_u64 n w).mono fun e w' h => cv_yes0 (.int .u16 (IntKind.u16.wrap n)) (fun h => by simp [SV.kd] at h) (wrap_in _ _) rfl trivial (fun _ => rfl) h
  | f32 x =>
    obtain rfl : v = _ := h
    exact (cv_u16_f32 x w).mono fun e w' h => cv_yesN (.int .u16 (fti .f32 x .u16 w)) (fti_of32 _ _ _) (fti_in _ _ _ _) rfl trivial (fun _ => rfl) h
  | f64 x =>
    obtain rfl : v = _ := h
    exact (cv_u16_f64 x w).mono fun e w' h => cv_yesN (.int .u16 (fti .f64 x .u16 w)) (fti_of64 _ _ _) (fti_in _ _ _ _) rfl trivial (fun _ => rfl) h
  | str s =>
    obtain rfl : v = _ := h
    exact (cv_u16_str s w).mono fun e w' h => .inr ⟨rfl, h⟩
  | blob l =>
    obtain ⟨a, cap, rfl, _, _⟩ := h
    exact (cv_u16_blob a l cap w).mono fun e w' h => .inr ⟨rfl, h⟩
  | iInt n =>
    obtain rfl : v = _ := h
    have hy' : IntKind.min .i64 ≤ n ∧ n ≤ IntKind.max .i64 := hy
    rw [q_i64.1, q_i64.2] at hy'
    obtain ⟨g1, g2⟩ := hy'
    by_cases clo : n < 0
    · exact (cv_u16_iInt_lo n (by omega) clo w).mono fun e w' h => .inr ⟨rfl, h⟩
    by_cases chi : 65535 < n
    · exact (cv_u16_iInt_hi n chi (by omega) w).mono fun e w' h => .inr ⟨rfl, h⟩
    exact (cv_u16_iInt_ok n (by omega) (by omega) w).mono fun e w' h => cv_yes0 (.int .u16 (IntKind.u16.wrap n)) (fun h => by simp [SV.kd] at h) (wrap_in _ _) rfl trivial (fun _ => rfl) h
  | iRune n =>
    obtain rfl : v = _ := h
    have hy' : IntKind.min .i32 ≤ n ∧ n ≤ IntKind.max .i32 := hy
    rw [q_i32.1, q_i32.2] at hy'
    obtain ⟨g1, g2⟩ := hy'
    by_cases clo : n < 0
    · exact (cv_u16_iRune_lo n (by omega) clo w).mono fun e w' h => .inr ⟨rfl, h⟩
    by_cases chi : 65535 < n
    · exact (cv_u16_iRune_hi n chi (by omega) w).mono fun e w' h => .inr ⟨rfl, h⟩
    exact (cv_u16_iRune_ok n (by omega) (by omega) w).mono fun e w' h => cv_yes0 (.int .u16 (IntKind.u16.wrap n)) (fun h => by simp [SV.kd] at h) (wrap_in _ _) rfl trivial (fun _ => rfl) h
  | iUint n =>
    obtain rfl : v = _ := h
    have hy' : IntKind.min .u64 ≤ n ∧ n ≤ IntKind.max .u64 := hy
    rw [q_u64.1, q_u64.2] at hy'
    obtain ⟨g1, g2⟩ := hy'
    by_cases chi : 65535 < n
    · exact (cv_u16_iUint_hi n chi (by omega) w).mono fun e w' h => .inr ⟨rfl, h⟩
    exact (cv_u16_iUint_ok n (by omega) (by omega) w).mono fun e w' h => cv_yes0 (.int .u16 (IntKind.u16.wrap n)) (fun h => by simp [SV.kd] at h) (wrap_in _ _) rfl trivial (fun _ => rfl) h
  | iFloat x =>
    obtain rfl : v = _ := h
    exact (cv_u16_iFloat x w).mono fun e w' h => cv_yesI (fun h => by simp [SV.kd] at h) rfl h

theorem cvt_u32 (y : SV) (hy : y.wf) (hs : y.small) (hn : y ≠ .null) (v : Value) (w : World) (h : Rep w y v) : Calls Tryd.prog 57 #[v, .int .i64 119] w (CvPost (.int .u32) y w) := by
  cases y with
  | null => exact absurd rfl hn
  | bool b =>
    obtain rfl : v = _ := h
    exact (cv_u32_bool b w).mono fun e w' h => .inr ⟨rfl, h⟩
  | int r n =>
    obtain rfl : v = _ := h
    obtain ⟨g1, g2⟩ := hy
    cases r
    case i8 => exact (cv_u32_i8 n w).mono fun e w' h => cv_yes0 (.int .u32 (IntKind.u32.wrap n)) (fun h => by simp [SV.kd] at h) (wrap_in _ _) rfl trivial (fun _ => rfl) h
    case i16 => exact (cv_u32_i16 n w).mono fun e w' h => cv_yes0 (.int .u32 (IntKind.u32.wrap n)) (fun h => by simp [SV.kd] at h) (wrap_in _ _) rfl trivial (fun _ => rfl) h
    case i32 => exact (cv_u32_i32 n w).mono fun e w' h => cv_yes0 (.int .u32 (IntKind.u32.wrap n)) (fun h => by simp [SV.kd] at h) (wrap_in _ _) rfl trivial (fun _ => rfl) h
    case i64 => exact (cv_u32_i64 n w).mono fun e w' h => cv_yes0 (.int .u32 (IntKind.u32.wrap n)) (fun h => by simp [SV.kd] at h) (wrap_in _ _) rfl trivial (fun _ => rfl) h
    case u8 => exact (cv_u32_u8 n w).mono fun e w' h => cv_yes0 (.int .u32 (IntKind.u32.wrap n)) (fun h => by simp [SV.kd] at h) (wrap_in _ _) rfl trivial (fun _ => rfl) h
    case u16 => exact (cv_u32_u16 n w).mono fun e w' h => cv_yes0 (.int .u32 (IntKind.u32.wrap n)) (fun h => by simp [SV.kd] at h) (wrap_in _ _) rfl trivial (fun _ => rfl) h
    case u32 => exact (cv_u32_u32 n w).mono fun e w' h => cv_yes0 (.int .u32 n) (fun _ => rfl) ⟨g1, g2⟩ rfl trivial (fun _ => rfl) h
    case u64 => exact (cv_u32_u64 n w).mono fun e w' h => cv_yes0 (.int .u32 (IntKind.u32.wrap n)) (fun h => by simp [SV.kd] at h) (wrap_in _ _) rfl trivial (fun _ => rfl) h
  | f32 x =>
    obtain rfl : v = _ := h
    exact (cv_u32_f32 x w).mono fun e w' h => cv_yesN (.int .u32 (fti .f32 x .u32 w)) (fti_of32 _ _ _) (fti_in _ _ _ _) rfl trivial (fun _ => rfl) h
  | f64 x =>
    obtain rfl : v = _ := h
    exact (cv_u32_f64 x w).mono fun e w' h => cv_yesN (.int .u32 (fti .f64 x .u32 w)) (fti_of64 _ _ _) (fti_in _ _ _ _) rfl trivial (fun _ => rfl) h
  | str s =>
    obtain rfl : v = _ := h
    exact (cv_u32_str s w).mono fun e w' h => .inr ⟨rfl, h⟩
  | blob l =>
    obtain ⟨a, cap, rfl, _, _⟩ := h
    exact (cv_u32_blob a l cap w).mono fun e w' h => .inr ⟨rfl, h⟩
  | iInt n =>
    obtain rfl : v = _ := h
    have hy' : IntKind.min .i64 ≤ n ∧ n ≤ IntKind.max .i64 := hy
    rw [q_i64.1, q_i64.2] at hy'
    obtain ⟨g1, g2⟩ := hy'
    by_cases clo : n < 0
    · exact (cv_u32_iInt_lo n (by omega) clo w).mono fun e w' h => .inr ⟨rfl, h⟩
    by_cases chi : 4294967295 < n
    · exact (cv_u32_iInt_hi n chi (by omega) w).mono fun e w' h => .inr ⟨rfl, h⟩
    exact (cv_u32_iInt_ok n (by omega) (by omega) w).mono fun e w' h => cv_yes0 (.int .u32 (IntKind.u32.wrap n)) (fun h => by simp [SV.kd] at h) (wrap_in _ _) rfl trivial (fun _ => rfl) h
  | iRune n =>
    obtain rfl : v = _ := h
    have hy' : IntKind.min .i32 ≤ n ∧ n ≤ IntKind.max .i32 := hy
    rw [q_i32.1, q_i32.2] at hy'
    obtain ⟨g1, g2⟩ := hy'
    by_cases clo : n < 0
    · exact (cv_u32_iRune_lo n (by omega) clo w).mono fun e w' h => .inr ⟨rfl, h⟩
    exact (cv_u32_iRune_ok n (by omega) (by omega) w).mono fun e w' h => cv_yes0 (.int .u32 (IntKind.u32.wrap n)) (fun h => by simp [SV.kd] at h) (wrap_in _ _) rfl trivial (fun _ => rfl) h
  | iUint n =>
    obtain rfl : v = _ := h
    have hy' : IntKind.min .u64 ≤ n ∧ n ≤ IntKind.max .u64 := hy
    rw [q_u64.1, q_u64.2] at hy'
    obtain ⟨g1, g2⟩ := hy'
    by_cases chi : 4294967295 < n
    · exact (cv_u32_iUint_hi n chi (by omega) w).mono fun e w' h => .inr ⟨rfl, h⟩
    exact (cv_u32_iUint_ok n (by omega) (by omega) w).mono fun e w' h => cv_yes0 (.int .u32 (IntKind.u32.wrap n)) (fun h => by simp [SV.kd] at h) (wrap_in _ _) rfl trivial (fun _ => rfl) h
  | iFloat x =>
    obtain rfl : v = _ := h
    exact (cv_u32_iFloat x w).mono fun e w' h => cv_yesI (fun h => by simp [SV.kd] at h) rfl h

theorem cvt_u64 (y : SV) (hy : y.wf) (hs : y.small) (hn : y ≠ .null) (v : Value) (w : World) (h : Rep w y v) : Calls Tryd.prog 57 #[v, .int .i64 120] w (CvPost (.int .u64) y w) := by
  cases y with
  | null => exact absurd rfl hn
  | bool b =>
    obtain rfl : v = _ := h
    exact (cv_u64_bool b w).mono fun e w' h => .inr ⟨rfl, h⟩
  | int r n =>
    obtain rfl : v = _ := h
    obtain ⟨g1, g2⟩ := hy
    cases r
    case i8 => exact (cv_u64_i8 n w).mono fun e w' h => cv_yes0 (.int .u64 (IntKind.u64.wrap n)) (fun h => by simp [SV.kd] at h) (wrap_in _ _) rfl trivial (fun _ => rfl) h
    case i16 => exact (cv_u64_i16 n w).mono fun e w' h => cv_yes0 (.int .u64 (IntKind.u64.wrap n)) (fun h => by simp [SV.kd] at h) (wrap_in _ _) rfl trivial (fun _ => rfl) h
    case i32 => exact (cv_u64_i32 n w).mono fun e w' h => cv_yes0 (.int .u64 (IntKind.u64.wrap n)) (fun h => by simp [SV.kd] at h) (wrap_in _ _) rfl trivial (fun _ => rfl) h
    case i64 => exact (cv_u64_i64 n w).mono fun e w' h => cv_yes0 (.int .u64 (IntKind.u64.wrap n)) (fun h => by simp [SV.kd] at h) (wrap_in _ _) rfl trivial (fun _ => rfl) h
    case u8 => exact (cv_u64_u8 n w).mono fun e w' h => cv_yes0 (.int .u64 (IntKind.u64.wrap n)) (fun h => by simp [SV.kd] at h) (wrap_in _ _) rfl trivial (fun _ => rfl) h
    case u16 => exact (cv_u64_u16 n w).mono fun e w' h => cv_yes0 (.int .u64 (IntKind.u64.wrap n)) (fun h => by simp [SV.kd] at h) (wrap_in _ _) rfl trivial (fun _ => rfl) h
    case u32 => exact (cv_u64_u32 n w).mono fun e w' h => cv_yes0 (.int .u64 (IntKind.u64.wrap n)) (fun h => by simp [SV.kd] at h) (wrap_in _ _) rfl trivial (fun _ => rfl) h
    case u64 => exact (cv_u64_u64 n w).mono fun e w' h => cv_yes0 (.int .u64 n) (fun _ => rfl) ⟨g1, g2⟩ rfl trivial (fun _ => rfl) h
  | f32 x =>
    obtain rfl : v = _ := h
    exact (cv_u64_f32 x w).mono fun e w' h => cv_yesN (.int .u64 (fti .f32 x .u64 w)) (fti_of32 _ _ _) (fti_in _ _ _ _) rfl trivial (fun _ => rfl) h
  | f64 x =>
    obtain rfl : v = _ := h
    exact (cv_u64_f64 x w).mono fun e w' h => cv_yesN (.int .u64 (fti .f64 x .u64 w)) (fti_of64 _ _ _) (fti_in _ _ _ _) rfl trivial (fun _ => rfl) h
  | str s =>
    obtain rfl : v = _ := h
    exact (cv_u64_str s w).mono fun e w' h => .inr ⟨rfl, h⟩
  | blob l =>
    obtain ⟨a, cap, rfl, _, _⟩ := h
    exact (cv_u64_blob a l cap w).mono fun e w' h => .inr ⟨rfl, h⟩
  | iInt n =>
    obtain rfl : v = _ := h
    have hy' : IntKind.min .i64 ≤ n ∧ n ≤ IntKind.max .i64 := hy
    rw [q_i64.1, q_i64.2] at hy'
    obtain ⟨g1, g2⟩ := hy'
    by_cases clo : n < 0
    · exact (cv_u64_iInt_lo n (by omega) clo w).mono fun e w' h => .inr ⟨rfl, h⟩
    exact (cv_u64_iInt_ok n (by omega) (by omega) w).mono fun e w' h => cv_yes0 (.int .u64 (IntKind.u64.wrap n)) (fun h => by simp [SV.kd] at h) (wrap_in _ _) rfl trivial (fun _ => rfl) h
  | iRune n =>
    obtain rfl : v = _ := h
    have hy' : IntKind.min .i32 ≤ n ∧ n ≤ IntKind.max .i32 := hy
    rw [q_i32.1, q_i32.2] at hy'
    obtain ⟨g1, g2⟩ := hy'
    by_cases clo : n < 0
    · exact (cv_u64_iRune_lo n (by omega) clo w).mono fun e w' h => .inr ⟨rfl, h⟩
    exact (cv_u64_iRune_ok n (by omega) (by omega) w).mono fun e w' h => cv_yes0 (.int .u64 (IntKind.u64.wrap n)) (fun h => by simp [SV.kd] at h) (wrap_in _ _) rfl trivial (fun _ => rfl) h
  | iUint n =>
    obtain rfl : v = _ := h
    have hy' : IntKind.min .u64 ≤ n ∧ n ≤ IntKind.max .u64 := hy
    rw [q_u64.1, q_u64.2] at hy'
    obtain ⟨g1, g2⟩ := hy'
    exact (cv_u64_iUint_ok n (by omega) (by omega) w).mono fun e w' h => cv_yes0 (.int .u64 n) (fun h => by simp [SV.kd] at h) hy rfl trivial (fun _ => rfl) h
  | iFloat x =>
    obtain rfl : v = _ := h
    exact (cv_u64_iFloat x w).mono fun e w' h => cv_yesI (fun h => by simp [SV.kd] at h) rfl h

theorem cvt_f32 (y : SV) (hy : y.wf) (hs : y.small) (hn : y ≠ .null) (v : Value) (w : World) (h : Rep w y v) : Calls Tryd.prog 57 #[v, .int .i64 102] w (CvPost (.f32) y w) := by
  cases y with
  | null => exact absurd rfl hn
  | bool b =>
    obtain rfl : v = _ := h
    exact (cv_f32_bool b w).mono fun e w' h => .inr ⟨rfl, h⟩
  | int r n =>
    obtain rfl : v = _ := h
    obtain ⟨g1, g2⟩ := hy
    cases r
    case i8 => exact (cv_f32_i8 n w).mono fun e w' h => cv_yes0 (.f32 (FloatKind.f32.nearest n)) rfl (near_lt_f32 n) rfl trivial (fun _ => rfl) h
    case i16 => exact (cv_f32_i16 n w).mono fun e w' h => cv_yes0 (.f32 (FloatKind.f32.nearest n)) rfl (near_lt_f32 n) rfl trivial (fun _ => rfl) h
    case i32 => exact (cv_f32_i32 n w).mono fun e w' h => cv_yes0 (.f32 (FloatKind.f32.nearest n)) rfl (near_lt_f32 n) rfl trivial (fun _ => rfl) h
    case i64 => exact (cv_f32_i64 n w).mono fun e w' h => cv_yes0 (.f32 (FloatKind.f32.nearest n)) rfl (near_lt_f32 n) rfl trivial (fun _ => rfl) h
    case u8 => exact (cv_f32_u8 n w).mono fun e w' h => cv_yes0 (.f32 (FloatKind.f32.nearest n)) rfl (near_lt_f32 n) rfl trivial (fun _ => rfl) h
    case u16 => exact (cv_f32_u16 n w).mono fun e w' h => cv_yes0 (.f32 (FloatKind.f32.nearest n)) rfl (near_lt_f32 n) rfl trivial (fun _ => rfl) h
    case u32 => exact (cv_f32_u32 n w).mono fun e w' h => cv_yes0 (.f32 (FloatKind.f32.nearest n)) rfl (near_lt_f32 n) rfl trivial (fun _ => rfl) h
    case u64 => exact (cv_f32_u64 n w).mono fun e w' h => cv_yes0 (.f32 (FloatKind.f32.nearest n)) rfl (near_lt_f32 n) rfl trivial (fun _ => rfl) h
  | f32 x =>
    obtain rfl : v = _ := h
    exact (cv_f32_f32 x w).mono fun e w' h => cv_yes0 (.f32 x) (fun _ => rfl) hy rfl trivial (fun _ => rfl) h
  | f64 x =>
    obtain rfl : v = _ := h
    cases hnan : (Ieee.double.read x).isNaN with
    | true => exact (cv_f32_f64_nan x hnan w).mono fun e w' h => cv_yesD (.f32 (nan32 w x)) (fun _ h => by rw [hnan] at h; cases h) (nan32_lt w x) rfl trivial (fun _ => rfl) h
    | false =>
      cases ho : ((Ieee.single.read (Flt.down x)).isInfinity && !(Ieee.double.read x).isInfinity) with
      | true =>
        have ho' := ho
        simp only [Bool.and_eq_true, Bool.not_eq_true'] at ho'
        exact (cv_f32_f64_over x ho'.1 ho'.2 hnan w).mono fun e w' h => cv_yesD (.f32 (over32 w x)) (fun h => by rw [ho] at h; cases h) (over32_lt w x) rfl trivial (fun _ => rfl) h
      | false => exact (cv_f32_f64 x ho hnan w).mono fun e w' h => cv_yes0 (.f32 (Flt.down x)) (fun _ _ => rfl) (down_lt x) rfl trivial (fun _ => rfl) h
  | iFloat x =>
    obtain rfl : v = _ := h
    cases hnan : (Ieee.double.read x).isNaN with
    | true => exact (cv_f32_iFloat_nan x hnan w).mono fun e w' h => cv_yesD (.f32 (nan32 w x)) (fun h => by simp [SV.kd] at h) (nan32_lt w x) rfl trivial (fun _ => rfl) h
    | false =>
      cases ho : ((Ieee.single.read (Flt.down x)).isInfinity && !(Ieee.double.read x).isInfinity) with
      | true =>
        have ho' := ho
        simp only [Bool.and_eq_true, Bool.not_eq_true'] at ho'
        exact (cv_f32_iFloat_over x ho'.1 ho'.2 hnan w).mono fun e w' h => cv_yesD (.f32 (over32 w x)) (fun h => by simp [SV.kd] at h) (over32_lt w x) rfl trivial (fun _ => rfl) h
      | false => exact (cv_f32_iFloat x ho hnan w).mono fun e w' h => cv_yes0 (.f32 (Flt.down x)) (fun h => by simp [SV.kd] at h) (down_lt x) rfl trivial (fun _ => rfl) h
  | str s =>
    obtain rfl : v = _ := h
    exact (cv_f32_str s w).mono fun e w' h => .inr ⟨rfl, h⟩
  | blob l =>
    obtain ⟨a, cap, rfl, _, _⟩ := h
    exact (cv_f32_blob a l cap w).mono fun e w' h => .inr ⟨rfl, h⟩
  | iInt n =>
    obtain rfl : v = _ := h
    exact (cv_f32_iInt n w).mono fun e w' h => cv_yes0 (.f32 (FloatKind.f32.nearest n)) (fun h => by simp [SV.kd] at h) (near_lt_f32 n) rfl trivial (fun _ => rfl) h
  | iRune n =>
    obtain rfl : v = _ := h
    exact (cv_f32_iRune n w).mono fun e w' h => cv_yes0 (.f32 (FloatKind.f32.nearest n)) (fun h => by simp [SV.kd] at h) (near_lt_f32 n) rfl trivial (fun _ => rfl) h
  | iUint n =>
    obtain rfl : v = _ := h
    exact (cv_f32_iUint n w).mono fun e w' h => cv_yes0 (.f32 (FloatKind.f32.nearest n)) (fun h => by simp [SV.kd] at h) (near_lt_f32 n) rfl trivial (fun _ => rfl) h

theorem cvt_f64 (y : SV) (hy : y.wf) (hs : y.small) (hn : y ≠ .null) (v : Value) (w : World) (h : Rep w y v) : Calls Tryd.prog 57 #[v, .int .i64 103] w (CvPost (.f64) y w) := by
  cases y with
  | null => exact absurd rfl hn
  | bool b =>
    obtain rfl : v = _ := h
    exact (cv_f64_bool b w).mono fun e w' h => .inr ⟨rfl, h⟩
  | int r n =>
    obtain rfl : v = _ := h
    obtain ⟨g1, g2⟩ := hy
    cases r
    case i8 => exact (cv_f64_i8 n w).mono fun e w' h => cv_yes0 (.f64 (FloatKind.f64.nearest n)) rfl (near_lt_f64 n) rfl trivial (fun _ => rfl) h
    case i16 => exact (cv_f64_i16 n w).mono fun e w' h => cv_yes0 (.f64 (FloatKind.f64.nearest n)) rfl (near_lt_f64 n) rfl trivial (fun _ => rfl) h
    case i32 => exact (cv_f64_i32 n w).mono fun e w' h => cv_yes0 (.f64 (FloatKind.f64.nearest n)) rfl (near_lt_f64 n) rfl trivial (fun _ => rfl) h
    case i64 => exact (cv_f64_i64 n w).mono fun e w' h => cv_yes0 (.f64 (FloatKind.f64.nearest n)) rfl (near_lt_f64 n) rfl trivial (fun _ => rfl) h
    case u8 => exact (cv_f64_u8 n w).mono fun e w' h => cv_yes0 (.f64 (FloatKind.f64.nearest n)) rfl (near_lt_f64 n) rfl trivial (fun _ => rfl) h
    case u16 => exact (cv_f64_u16 n w).mono fun e w' h => cv_yes0 (.f64 (FloatKind.f64.nearest n)) rfl (near_lt_f64 n) rfl trivial (fun _ => rfl) h
    case u32 => exact (cv_f64_u32 n w).mono fun e w' h => cv_yes0 (.f64 (FloatKind.f64.nearest n)) rfl (near_lt_f64 n) rfl trivial (fun _ => rfl) h
    case u64 => exact (cv_f64_u64 n w).mono fun e w' h => cv_yes0 (.f64 (FloatKind.f64.nearest n)) rfl (near_lt_f64 n) rfl trivial (fun _ => rfl) h
  | f32 x =>
    obtain rfl : v = _ := h
    exact (cv_f64_f32 x w).mono fun e w' h => cv_yesN (.f64 (wide w x)) (fun h => by simp [SV.kd] at h) (wide_lt w x) rfl trivial (fun _ => rfl) h
  | f64 x =>
    obtain rfl : v = _ := h
    exact (cv_f64_f64 x w).mono fun e w' h => cv_yes0 (.f64 x) (fun _ => rfl) hy rfl trivial (fun _ => rfl) h
  | iFloat x =>
    obtain rfl : v = _ := h
    exact (cv_f64_iFloat x w).mono fun e w' h => cv_yes0 (.f64 x) (fun h => by simp [SV.kd] at h) hy rfl trivial (fun _ => rfl) h
  | str s =>
    obtain rfl : v = _ := h
    exact (cv_f64_str s w).mono fun e w' h => .inr ⟨rfl, h⟩
  | blob l =>
    obtain ⟨a, cap, rfl, _, _⟩ := h
    exact (cv_f64_blob a l cap w).mono fun e w' h => .inr ⟨rfl, h⟩
  | iInt n =>
    obtain rfl : v = _ := h
    exact (cv_f64_iInt n w).mono fun e w' h => cv_yes0 (.f64 (FloatKind.f64.nearest n)) (fun h => by simp [SV.kd] at h) (near_lt_f64 n) rfl trivial (fun _ => rfl) h
  | iRune n =>
    obtain rfl : v = _ := h
    exact (cv_f64_iRune n w).mono fun e w' h => cv_yes0 (.f64 (FloatKind.f64.nearest n)) (fun h => by simp [SV.kd] at h) (near_lt_f64 n) rfl trivial (fun _ => rfl) h
  | iUint n =>
    obtain rfl : v = _ := h
    exact (cv_f64_iUint n w).mono fun e w' h => cv_yes0 (.f64 (FloatKind.f64.nearest n)) (fun h => by simp [SV.kd] at h) (near_lt_f64 n) rfl trivial (fun _ => rfl) h

theorem cvt_str (y : SV) (hy : y.wf) (hs : y.small) (hn : y ≠ .null) (v : Value) (w : World) (h : Rep w y v) : Calls Tryd.prog 57 #[v, .int .i64 115] w (CvPost (.str) y w) := by
  cases y with
  | null => exact absurd rfl hn
  | bool b =>
    obtain rfl : v = _ := h
    exact (cv_str_bool b w).mono fun e w' h => .inr ⟨rfl, h⟩
  | int r n =>
    obtain rfl : v = _ := h
    obtain ⟨g1, g2⟩ := hy
    cases r
    case i8 => exact (cv_str_i8 n w).mono fun e w' h => cv_yes0 (.str (Utf8.encode (wrap32 n))) (fun h => by simp [SV.kd] at h) trivial rfl (enc_small _) (fun _ => rfl) h
    case i16 => exact (cv_str_i16 n w).mono fun e w' h => cv_yes0 (.str (Utf8.encode (wrap32 n))) (fun h => by simp [SV.kd] at h) trivial rfl (enc_small _) (fun _ => rfl) h
    case i32 => exact (cv_str_i32 n w).mono fun e w' h => cv_yes0 (.str (Utf8.encode n)) (fun h => by simp [SV.kd] at h) trivial rfl (enc_small _) (fun _ => rfl) h
    case i64 => exact (cv_str_i64 n w).mono fun e w' h => cv_yes0 (.str (Utf8.encode (wrap32 n))) (fun h => by simp [SV.kd] at h) trivial rfl (enc_small _) (fun _ => rfl) h
    case u8 => exact (cv_str_u8 n w).mono fun e w' h => cv_yes0 (.str (Utf8.encode (wrap32 n))) (fun h => by simp [SV.kd] at h) trivial rfl (enc_small _) (fun _ => rfl) h
    case u16 => exact (cv_str_u16 n w).mono fun e w' h => cv_yes0 (.str (Utf8.encode (wrap32 n))) (fun h => by simp [SV.kd] at h) trivial rfl (enc_small _) (fun _ => rfl) h
    case u32 => exact (cv_str_u32 n w).mono fun e w' h => cv_yes0 (.str (Utf8.encode (wrap32 n))) (fun h => by simp [SV.kd] at h) trivial rfl (enc_small _) (fun _ => rfl) h
    case u64 => exact (cv_str_u64 n w).mono fun e w' h => cv_yes0 (.str (Utf8.encode (wrap32 n))) (fun h => by simp [SV.kd] at h) trivial rfl (enc_small _) (fun _ => rfl) h
  | f32 x =>
    obtain rfl : v = _ := h
    exact (cv_str_f32 x w).mono fun e w' h => .inr ⟨rfl, h⟩
  | f64 x =>
    obtain rfl : v = _ := h
    exact (cv_str_f64 x w).mono fun e w' h => .inr ⟨rfl, h⟩
  | iFloat x =>
    obtain rfl : v = _ := h
    exact (cv_str_iFloat x w).mono fun e w' h => .inr ⟨rfl, h⟩
  | iInt n =>
    obtain rfl : v = _ := h
    exact (cv_str_iInt n w).mono fun e w' h => cv_yes0 (.str (Utf8.encode (wrap32 n))) (fun h => by simp [SV.kd] at h) trivial rfl (enc_small _) (fun _ => rfl) h
  | iRune n =>
    obtain rfl : v = _ := h
    exact (cv_str_iRune n w).mono fun e w' h => cv_yes0 (.str (Utf8.encode n)) (fun h => by simp [SV.kd] at h) trivial rfl (enc_small _) (fun _ => rfl) h
  | iUint n =>
    obtain rfl : v = _ := h
    exact (cv_str_iUint n w).mono fun e w' h => cv_yes0 (.str (Utf8.encode (wrap32 n))) (fun h => by simp [SV.kd] at h) trivial rfl (enc_small _) (fun _ => rfl) h
  | str s =>
    obtain rfl : v = _ := h
    exact (cv_str_str s w).mono fun e w' h => cv_yes0 (.str s) (fun _ => rfl) trivial rfl hs (fun _ => rfl) h
  | blob l =>
    obtain ⟨a, cap, rfl, _, hc⟩ := h
    exact (cv_str_blob a l cap w hc).mono fun e w' h => cv_yes0 (.str ⟨l.toArray⟩) (fun h => by simp [SV.kd] at h) trivial rfl (by show l.toArray.size ≤ 65536; rw [List.size_toArray]; exact hs) (fun _ => rfl) h

theorem cvt_blob (y : SV) (hy : y.wf) (hs : y.small) (hn : y ≠ .null) (v : Value) (w : World) (h : Rep w y v) : Calls Tryd.prog 57 #[v, .int .i64 66] w (CvPost (.blob) y w) := by
  cases y with
  | null => exact absurd rfl hn
  | bool b =>
    obtain rfl : v = _ := h
    exact (cv_blob_bool b w).mono fun e w' h => .inr ⟨rfl, h⟩
  | int r n =>
    obtain rfl : v = _ := h
    obtain ⟨g1, g2⟩ := hy
    cases r
    case i8 => exact (cv_blob_i8 n w).mono fun e w' h => .inr ⟨rfl, h⟩
    case i16 => exact (cv_blob_i16 n w).mono fun e w' h => .inr ⟨rfl, h⟩
    case i32 => exact (cv_blob_i32 n w).mono fun e w' h => .inr ⟨rfl, h⟩
    case i64 => exact (cv_blob_i64 n w).mono fun e w' h => .inr ⟨rfl, h⟩
    case u8 => exact (cv_blob_u8 n w).mono fun e w' h => .inr ⟨rfl, h⟩
    case u16 => exact (cv_blob_u16 n w).mono fun e w' h => .inr ⟨rfl, h⟩
    case u32 => exact (cv_blob_u32 n w).mono fun e w' h => .inr ⟨rfl, h⟩
    case u64 => exact (cv_blob_u64 n w).mono fun e w' h => .inr ⟨rfl, h⟩
  | f32 x =>
    obtain rfl : v = _ := h
    exact (cv_blob_f32 x w).mono fun e w' h => .inr ⟨rfl, h⟩
  | f64 x =>
    obtain rfl : v = _ := h
    exact (cv_blob_f64 x w).mono fun e w' h => .inr ⟨rfl, h⟩
  | iFloat x =>
    obtain rfl : v = _ := h
    exact (cv_blob_iFloat x w).mono fun e w' h => .inr ⟨rfl, h⟩
  | iInt n =>
    obtain rfl : v = _ := h
    exact (cv_blob_iInt n w).mono fun e w' h => .inr ⟨rfl, h⟩
  | iRune n =>
    obtain rfl : v = _ := h
    exact (cv_blob_iRune n w).mono fun e w' h => .inr ⟨rfl, h⟩
  | iUint n =>
    obtain rfl : v = _ := h
    exact (cv_blob_iUint n w).mono fun e w' h => .inr ⟨rfl, h⟩
  | str s =>
    obtain rfl : v = _ := h
    exact (cv_blob_str s w).mono fun e w' h => cv_blob (fun h => by simp [SV.kd] at h) hs h
  | blob l =>
    have h' := h
    obtain ⟨a, cap, rfl, _, _⟩ := h'
    exact (cv_blob_blob a l cap w).mono fun e w' ⟨he, hw⟩ => .inl ⟨.blob l, _, fun _ => rfl, trivial, rfl, hs, (by subst hw; exact h), he, (by subst hw; exact Below.refl _ _)⟩

end Go.Proofs.YtiijcmdfbgoafaaDoor
