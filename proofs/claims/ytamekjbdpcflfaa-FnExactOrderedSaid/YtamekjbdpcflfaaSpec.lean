/-
  The walks of the reference's small functions of a kind, of spec.Valid at valid values of ordered types, and of spec.Ordered. PRINTED BY wip/tpl/gen_spec.py.
-/
import Derived.Test.YtamekjbdpcflfaaIn
namespace Go.Proofs.Ytamekjbdpcflfaa
open Go.RowKit

def Kd.isInt : Kd → Bool
  | .int _ => true
  | _ => false
def Kd.vSgn : Kd → Bool
  | .int q => q.signed
  | _ => false
def Kd.vUns : Kd → Bool
  | .int q => !q.signed
  | _ => false
def Kd.vFlt : Kd → Bool
  | .f32 | .f64 => true
  | _ => false
def Kd.vOrd : Kd → Bool
  | .int _ | .f32 | .f64 | .str | .blob => true
  | _ => false
def Kd.vWid : Kd → Int
  | .int .i8 | .int .u8 => 8
  | .int .i16 | .int .u16 => 16
  | .int .i32 | .int .u32 => 32
  | _ => 64
def Kd.vLst : Kd → Int
  | .int .i8 | .int .u8 => -128
  | .int .i16 | .int .u16 => -32768
  | .int .i32 | .int .u32 => -2147483648
  | _ => -9223372036854775808
def Kd.vGrt : Kd → Int
  | .int .i8 | .int .u8 => 127
  | .int .i16 | .int .u16 => 32767
  | .int .i32 | .int .u32 => 2147483647
  | _ => 9223372036854775807
def Kd.vMst : Kd → Int
  | .int .i8 | .int .u8 => 255
  | .int .i16 | .int .u16 => 65535
  | .int .i32 | .int .u32 => 4294967295
  | _ => 18446744073709551615

set_option maxHeartbeats 1000000 in
theorem vSgn_any (k : ByteArray) (w : World) :
    Calls Try.prog 46 #[.string k] w fun e w' => e = .returned (.bool (Kd.of k.toList).vSgn) ∧ w = w' := by
  cases hk : Kd.of k.toList
  case other =>
    obtain ⟨h1, h2, h3, h4, h5, h6, h7, h8, h9, h10, h11, h12, h13, h14, h15, h16, h17, h18⟩ := Kd.of_other _ hk
    clear hk
    (go_enter Try.func46, Try.ntmps46; go_wp2; go_ret; exact ⟨rfl, rfl⟩)
  case int q =>
    have hl := Kd.of_lit _ hk (by simp)
    clear hk
    cases q <;> (simp only [Kd.lit] at hl; (go_enter Try.func46, Try.ntmps46; go_wp2; go_ret; exact ⟨rfl, rfl⟩))
  all_goals
    have hl := Kd.of_lit _ hk (by simp)
    clear hk
    simp only [Kd.lit] at hl
    (go_enter Try.func46, Try.ntmps46; go_wp2; go_ret; exact ⟨rfl, rfl⟩)

set_option maxHeartbeats 1000000 in
theorem vUns_any (k : ByteArray) (w : World) :
    Calls Try.prog 49 #[.string k] w fun e w' => e = .returned (.bool (Kd.of k.toList).vUns) ∧ w = w' := by
  cases hk : Kd.of k.toList
  case other =>
    obtain ⟨h1, h2, h3, h4, h5, h6, h7, h8, h9, h10, h11, h12, h13, h14, h15, h16, h17, h18⟩ := Kd.of_other _ hk
    clear hk
    (go_enter Try.func49, Try.ntmps49; go_wp2; go_ret; exact ⟨rfl, rfl⟩)
  case int q =>
    have hl := Kd.of_lit _ hk (by simp)
    clear hk
    cases q <;> (simp only [Kd.lit] at hl; (go_enter Try.func49, Try.ntmps49; go_wp2; go_ret; exact ⟨rfl, rfl⟩))
  all_goals
    have hl := Kd.of_lit _ hk (by simp)
    clear hk
    simp only [Kd.lit] at hl
    (go_enter Try.func49, Try.ntmps49; go_wp2; go_ret; exact ⟨rfl, rfl⟩)

set_option maxHeartbeats 1000000 in
theorem vOrd_any (k : ByteArray) (w : World) :
    Calls Try.prog 30 #[.string k] w fun e w' => e = .returned (.bool (Kd.of k.toList).vOrd) ∧ w = w' := by
  cases hk : Kd.of k.toList
  case other =>
    obtain ⟨h1, h2, h3, h4, h5, h6, h7, h8, h9, h10, h11, h12, h13, h14, h15, h16, h17, h18⟩ := Kd.of_other _ hk
    clear hk
    (go_enter Try.func30, Try.ntmps30; go_wp2; go_ret; exact ⟨rfl, rfl⟩)
  case int q =>
    have hl := Kd.of_lit _ hk (by simp)
    clear hk
    cases q <;> (simp only [Kd.lit] at hl; (go_enter Try.func30, Try.ntmps30; go_wp2; go_ret; exact ⟨rfl, rfl⟩))
  all_goals
    have hl := Kd.of_lit _ hk (by simp)
    clear hk
    simp only [Kd.lit] at hl
    (go_enter Try.func30, Try.ntmps30; go_wp2; go_ret; exact ⟨rfl, rfl⟩)

set_option maxHeartbeats 1000000 in
theorem vWid_any (k : ByteArray) (w : World) :
    Calls Try.prog 57 #[.string k] w fun e w' => e = .returned (.int .u64 (Kd.of k.toList).vWid) ∧ w = w' := by
  cases hk : Kd.of k.toList
  case other =>
    obtain ⟨h1, h2, h3, h4, h5, h6, h7, h8, h9, h10, h11, h12, h13, h14, h15, h16, h17, h18⟩ := Kd.of_other _ hk
    clear hk
    (go_enter Try.func57, Try.ntmps57; go_wp2; go_ret; exact ⟨rfl, rfl⟩)
  case int q =>
    have hl := Kd.of_lit _ hk (by simp)
    clear hk
    cases q <;> (simp only [Kd.lit] at hl; (go_enter Try.func57, Try.ntmps57; go_wp2; go_ret; exact ⟨rfl, rfl⟩))
  all_goals
    have hl := Kd.of_lit _ hk (by simp)
    clear hk
    simp only [Kd.lit] at hl
    (go_enter Try.func57, Try.ntmps57; go_wp2; go_ret; exact ⟨rfl, rfl⟩)

set_option maxHeartbeats 1000000 in
theorem vLst_any (k : ByteArray) (w : World) :
    Calls Try.prog 47 #[.string k] w fun e w' => e = .returned (.int .i64 (Kd.of k.toList).vLst) ∧ w = w' := by
  cases hk : Kd.of k.toList
  case other =>
    obtain ⟨h1, h2, h3, h4, h5, h6, h7, h8, h9, h10, h11, h12, h13, h14, h15, h16, h17, h18⟩ := Kd.of_other _ hk
    clear hk
    (go_enter Try.func47, Try.ntmps47; go_wp2; go_ret; exact ⟨rfl, rfl⟩)
  case int q =>
    have hl := Kd.of_lit _ hk (by simp)
    clear hk
    cases q <;> (simp only [Kd.lit] at hl; (go_enter Try.func47, Try.ntmps47; go_wp2; go_ret; exact ⟨rfl, rfl⟩))
  all_goals
    have hl := Kd.of_lit _ hk (by simp)
    clear hk
    simp only [Kd.lit] at hl
    (go_enter Try.func47, Try.ntmps47; go_wp2; go_ret; exact ⟨rfl, rfl⟩)

set_option maxHeartbeats 1000000 in
theorem vGrt_any (k : ByteArray) (w : World) :
    Calls Try.prog 48 #[.string k] w fun e w' => e = .returned (.int .i64 (Kd.of k.toList).vGrt) ∧ w = w' := by
  cases hk : Kd.of k.toList
  case other =>
    obtain ⟨h1, h2, h3, h4, h5, h6, h7, h8, h9, h10, h11, h12, h13, h14, h15, h16, h17, h18⟩ := Kd.of_other _ hk
    clear hk
    (go_enter Try.func48, Try.ntmps48; go_wp2; go_ret; first | exact ⟨rfl, rfl⟩ | exact ⟨congrArg (fun x => Ending.returned (Value.int .i64 x)) (by unfold wrap64; omega : wrap64 (wrap64 9223372036854775808 - 1) = 9223372036854775807), rfl⟩)
  case int q =>
    have hl := Kd.of_lit _ hk (by simp)
    clear hk
    cases q <;> (simp only [Kd.lit] at hl; (go_enter Try.func48, Try.ntmps48; go_wp2; go_ret; first | exact ⟨rfl, rfl⟩ | exact ⟨congrArg (fun x => Ending.returned (Value.int .i64 x)) (by unfold wrap64; omega : wrap64 (wrap64 9223372036854775808 - 1) = 9223372036854775807), rfl⟩))
  all_goals
    have hl := Kd.of_lit _ hk (by simp)
    clear hk
    simp only [Kd.lit] at hl
    (go_enter Try.func48, Try.ntmps48; go_wp2; go_ret; first | exact ⟨rfl, rfl⟩ | exact ⟨congrArg (fun x => Ending.returned (Value.int .i64 x)) (by unfold wrap64; omega : wrap64 (wrap64 9223372036854775808 - 1) = 9223372036854775807), rfl⟩)

set_option maxHeartbeats 1000000 in
theorem vMst_any (k : ByteArray) (w : World) :
    Calls Try.prog 50 #[.string k] w fun e w' => e = .returned (.int .u64 (Kd.of k.toList).vMst) ∧ w = w' := by
  cases hk : Kd.of k.toList
  case other =>
    obtain ⟨h1, h2, h3, h4, h5, h6, h7, h8, h9, h10, h11, h12, h13, h14, h15, h16, h17, h18⟩ := Kd.of_other _ hk
    clear hk
    (go_enter Try.func50, Try.ntmps50; go_wp2; go_ret; exact ⟨rfl, rfl⟩)
  case int q =>
    have hl := Kd.of_lit _ hk (by simp)
    clear hk
    cases q <;> (simp only [Kd.lit] at hl; (go_enter Try.func50, Try.ntmps50; go_wp2; go_ret; exact ⟨rfl, rfl⟩))
  all_goals
    have hl := Kd.of_lit _ hk (by simp)
    clear hk
    simp only [Kd.lit] at hl
    (go_enter Try.func50, Try.ntmps50; go_wp2; go_ret; exact ⟨rfl, rfl⟩)

set_option maxRecDepth 100000 in
set_option maxHeartbeats 1000000 in
theorem sval_i8 (k : ByteArray) (hk : Kd.of k.toList = (.int .i8)) (n u : Int) (f : Nat) (s : ByteArray) (h1 : -128 ≤ n) (h2 : n ≤ 127) (hu : (u == 0) = true) (hf : ((f : Int) == 0) = true) (hs : s.toList.isEmpty = true) (w : World) :
    Calls Try.prog 31 #[.agg #[.string k, .int .i64 n, .int .u64 u, .float .f64 f, .string s]] w fun e w' => e = .returned (.bool true) ∧ Below w.heap.size w w' := by
  have hl := Kd.of_lit _ hk (by simp)
  simp only [Kd.lit] at hl
  have h_vSgn := fun w => vSgn_any k w
  have h_vUns := fun w => vUns_any k w
  have h_vLst := fun w => vLst_any k w
  have h_vGrt := fun w => vGrt_any k w
  have h_vMst := fun w => vMst_any k w
  rw [hk] at h_vSgn h_vUns h_vLst h_vGrt h_vMst
  rw [show Kd.vSgn (.int .i8) = true from rfl] at h_vSgn
  rw [show Kd.vUns (.int .i8) = false from rfl] at h_vUns
  rw [show Kd.vLst (.int .i8) = -128 from rfl] at h_vLst
  rw [show Kd.vGrt (.int .i8) = 127 from rfl] at h_vGrt
  rw [show Kd.vMst (.int .i8) = 255 from rfl] at h_vMst
  have H_vSgn := Lib.hid h_vSgn
  have H_vUns := Lib.hid h_vUns
  have H_vLst := Lib.hid h_vLst
  have H_vGrt := Lib.hid h_vGrt
  have H_vMst := Lib.hid h_vMst
  clear hk h_vSgn h_vUns h_vLst h_vGrt h_vMst
  have hfb := run_f64bits f
  go_enter Try.func31, Try.ntmps31
  go_wp2
  go_quiet (fail)
  go_wp2_with (first | (go_at_call 46; refine (H_vSgn.out _).mono ?_; rintro e w' ⟨rfl, rfl⟩) | (go_at_call 49; refine (H_vUns.out _).mono ?_; rintro e w' ⟨rfl, rfl⟩) | (go_at_call 47; refine (H_vLst.out _).mono ?_; rintro e w' ⟨rfl, rfl⟩) | (go_at_call 48; refine (H_vGrt.out _).mono ?_; rintro e w' ⟨rfl, rfl⟩) | (go_at_call 50; refine (H_vMst.out _).mono ?_; rintro e w' ⟨rfl, rfl⟩))
  go_quiet ((first | (go_at_call 46; exact quiet_add_left (H_vSgn.out _)) | (go_at_call 49; exact quiet_add_left (H_vUns.out _)) | (go_at_call 47; exact quiet_add_left (H_vLst.out _)) | (go_at_call 48; exact quiet_add_left (H_vGrt.out _)) | (go_at_call 50; exact quiet_add_left (H_vMst.out _))))
  go_wp2
  go_ret
  exact ⟨rfl, by repeat (first | exact Below.refl _ _ | exact (Below.refl _ _).alloc (Nat.le_refl _) _ | refine below_drewN ?_ _)⟩

set_option maxRecDepth 100000 in
set_option maxHeartbeats 1000000 in
theorem sval_i16 (k : ByteArray) (hk : Kd.of k.toList = (.int .i16)) (n u : Int) (f : Nat) (s : ByteArray) (h1 : -32768 ≤ n) (h2 : n ≤ 32767) (hu : (u == 0) = true) (hf : ((f : Int) == 0) = true) (hs : s.toList.isEmpty = true) (w : World) :
    Calls Try.prog 31 #[.agg #[.string k, .int .i64 n, .int .u64 u, .float .f64 f, .string s]] w fun e w' => e = .returned (.bool true) ∧ Below w.heap.size w w' := by
  have hl := Kd.of_lit _ hk (by simp)
  simp only [Kd.lit] at hl
  have h_vSgn := fun w => vSgn_any k w
  have h_vUns := fun w => vUns_any k w
  have h_vLst := fun w => vLst_any k w
  have h_vGrt := fun w => vGrt_any k w
  have h_vMst := fun w => vMst_any k w
  rw [hk] at h_vSgn h_vUns h_vLst h_vGrt h_vMst
  rw [show Kd.vSgn (.int .i16) = true from rfl] at h_vSgn
  rw [show Kd.vUns (.int .i16) = false from rfl] at h_vUns
  rw [show Kd.vLst (.int .i16) = -32768 from rfl] at h_vLst
  rw [show Kd.vGrt (.int .i16) = 32767 from rfl] at h_vGrt
  rw [show Kd.vMst (.int .i16) = 65535 from rfl] at h_vMst
  have H_vSgn := Lib.hid h_vSgn
  have H_vUns := Lib.hid h_vUns
  have H_vLst := Lib.hid h_vLst
  have H_vGrt := Lib.hid h_vGrt
  have H_vMst := Lib.hid h_vMst
  clear hk h_vSgn h_vUns h_vLst h_vGrt h_vMst
  have hfb := run_f64bits f
  go_enter Try.func31, Try.ntmps31
  go_wp2
  go_quiet (fail)
  go_wp2_with (first | (go_at_call 46; refine (H_vSgn.out _).mono ?_; rintro e w' ⟨rfl, rfl⟩) | (go_at_call 49; refine (H_vUns.out _).mono ?_; rintro e w' ⟨rfl, rfl⟩) | (go_at_call 47; refine (H_vLst.out _).mono ?_; rintro e w' ⟨rfl, rfl⟩) | (go_at_call 48; refine (H_vGrt.out _).mono ?_; rintro e w' ⟨rfl, rfl⟩) | (go_at_call 50; refine (H_vMst.out _).mono ?_; rintro e w' ⟨rfl, rfl⟩))
  go_quiet ((first | (go_at_call 46; exact quiet_add_left (H_vSgn.out _)) | (go_at_call 49; exact quiet_add_left (H_vUns.out _)) | (go_at_call 47; exact quiet_add_left (H_vLst.out _)) | (go_at_call 48; exact quiet_add_left (H_vGrt.out _)) | (go_at_call 50; exact quiet_add_left (H_vMst.out _))))
  go_wp2
  go_ret
  exact ⟨rfl, by repeat (first | exact Below.refl _ _ | exact (Below.refl _ _).alloc (Nat.le_refl _) _ | refine below_drewN ?_ _)⟩

set_option maxRecDepth 100000 in
set_option maxHeartbeats 1000000 in
theorem sval_i32 (k : ByteArray) (hk : Kd.of k.toList = (.int .i32)) (n u : Int) (f : Nat) (s : ByteArray) (h1 : -2147483648 ≤ n) (h2 : n ≤ 2147483647) (hu : (u == 0) = true) (hf : ((f : Int) == 0) = true) (hs : s.toList.isEmpty = true) (w : World) :
    Calls Try.prog 31 #[.agg #[.string k, .int .i64 n, .int .u64 u, .float .f64 f, .string s]] w fun e w' => e = .returned (.bool true) ∧ Below w.heap.size w w' := by
  have hl := Kd.of_lit _ hk (by simp)
  simp only [Kd.lit] at hl
  have h_vSgn := fun w => vSgn_any k w
  have h_vUns := fun w => vUns_any k w
  have h_vLst := fun w => vLst_any k w
  have h_vGrt := fun w => vGrt_any k w
  have h_vMst := fun w => vMst_any k w
  rw [hk] at h_vSgn h_vUns h_vLst h_vGrt h_vMst
  rw [show Kd.vSgn (.int .i32) = true from rfl] at h_vSgn
  rw [show Kd.vUns (.int .i32) = false from rfl] at h_vUns
  rw [show Kd.vLst (.int .i32) = -2147483648 from rfl] at h_vLst
  rw [show Kd.vGrt (.int .i32) = 2147483647 from rfl] at h_vGrt
  rw [show Kd.vMst (.int .i32) = 4294967295 from rfl] at h_vMst
  have H_vSgn := Lib.hid h_vSgn
  have H_vUns := Lib.hid h_vUns
  have H_vLst := Lib.hid h_vLst
  have H_vGrt := Lib.hid h_vGrt
  have H_vMst := Lib.hid h_vMst
  clear hk h_vSgn h_vUns h_vLst h_vGrt h_vMst
  have hfb := run_f64bits f
  go_enter Try.func31, Try.ntmps31
  go_wp2
  go_quiet (fail)
  go_wp2_with (first | (go_at_call 46; refine (H_vSgn.out _).mono ?_; rintro e w' ⟨rfl, rfl⟩) | (go_at_call 49; refine (H_vUns.out _).mono ?_; rintro e w' ⟨rfl, rfl⟩) | (go_at_call 47; refine (H_vLst.out _).mono ?_; rintro e w' ⟨rfl, rfl⟩) | (go_at_call 48; refine (H_vGrt.out _).mono ?_; rintro e w' ⟨rfl, rfl⟩) | (go_at_call 50; refine (H_vMst.out _).mono ?_; rintro e w' ⟨rfl, rfl⟩))
  go_quiet ((first | (go_at_call 46; exact quiet_add_left (H_vSgn.out _)) | (go_at_call 49; exact quiet_add_left (H_vUns.out _)) | (go_at_call 47; exact quiet_add_left (H_vLst.out _)) | (go_at_call 48; exact quiet_add_left (H_vGrt.out _)) | (go_at_call 50; exact quiet_add_left (H_vMst.out _))))
  go_wp2
  go_ret
  exact ⟨rfl, by repeat (first | exact Below.refl _ _ | exact (Below.refl _ _).alloc (Nat.le_refl _) _ | refine below_drewN ?_ _)⟩

set_option maxRecDepth 100000 in
set_option maxHeartbeats 1000000 in
theorem sval_i64 (k : ByteArray) (hk : Kd.of k.toList = (.int .i64)) (n u : Int) (f : Nat) (s : ByteArray) (h1 : -9223372036854775808 ≤ n) (h2 : n ≤ 9223372036854775807) (hu : (u == 0) = true) (hf : ((f : Int) == 0) = true) (hs : s.toList.isEmpty = true) (w : World) :
    Calls Try.prog 31 #[.agg #[.string k, .int .i64 n, .int .u64 u, .float .f64 f, .string s]] w fun e w' => e = .returned (.bool true) ∧ Below w.heap.size w w' := by
  have hl := Kd.of_lit _ hk (by simp)
  simp only [Kd.lit] at hl
  have h_vSgn := fun w => vSgn_any k w
  have h_vUns := fun w => vUns_any k w
  have h_vLst := fun w => vLst_any k w
  have h_vGrt := fun w => vGrt_any k w
  have h_vMst := fun w => vMst_any k w
  rw [hk] at h_vSgn h_vUns h_vLst h_vGrt h_vMst
  rw [show Kd.vSgn (.int .i64) = true from rfl] at h_vSgn
  rw [show Kd.vUns (.int .i64) = false from rfl] at h_vUns
  rw [show Kd.vLst (.int .i64) = -9223372036854775808 from rfl] at h_vLst
  rw [show Kd.vGrt (.int .i64) = 9223372036854775807 from rfl] at h_vGrt
  rw [show Kd.vMst (.int .i64) = 18446744073709551615 from rfl] at h_vMst
  have H_vSgn := Lib.hid h_vSgn
  have H_vUns := Lib.hid h_vUns
  have H_vLst := Lib.hid h_vLst
  have H_vGrt := Lib.hid h_vGrt
  have H_vMst := Lib.hid h_vMst
  clear hk h_vSgn h_vUns h_vLst h_vGrt h_vMst
  have hfb := run_f64bits f
  go_enter Try.func31, Try.ntmps31
  go_wp2
  go_quiet (fail)
  go_wp2_with (first | (go_at_call 46; refine (H_vSgn.out _).mono ?_; rintro e w' ⟨rfl, rfl⟩) | (go_at_call 49; refine (H_vUns.out _).mono ?_; rintro e w' ⟨rfl, rfl⟩) | (go_at_call 47; refine (H_vLst.out _).mono ?_; rintro e w' ⟨rfl, rfl⟩) | (go_at_call 48; refine (H_vGrt.out _).mono ?_; rintro e w' ⟨rfl, rfl⟩) | (go_at_call 50; refine (H_vMst.out _).mono ?_; rintro e w' ⟨rfl, rfl⟩))
  go_quiet ((first | (go_at_call 46; exact quiet_add_left (H_vSgn.out _)) | (go_at_call 49; exact quiet_add_left (H_vUns.out _)) | (go_at_call 47; exact quiet_add_left (H_vLst.out _)) | (go_at_call 48; exact quiet_add_left (H_vGrt.out _)) | (go_at_call 50; exact quiet_add_left (H_vMst.out _))))
  go_wp2
  go_ret
  exact ⟨rfl, by repeat (first | exact Below.refl _ _ | exact (Below.refl _ _).alloc (Nat.le_refl _) _ | refine below_drewN ?_ _)⟩

set_option maxRecDepth 100000 in
set_option maxHeartbeats 1000000 in
theorem sval_u8 (k : ByteArray) (hk : Kd.of k.toList = (.int .u8)) (n u : Int) (f : Nat) (s : ByteArray) (h2 : u ≤ 255) (hn : (n == 0) = true) (hf : ((f : Int) == 0) = true) (hs : s.toList.isEmpty = true) (w : World) :
    Calls Try.prog 31 #[.agg #[.string k, .int .i64 n, .int .u64 u, .float .f64 f, .string s]] w fun e w' => e = .returned (.bool true) ∧ Below w.heap.size w w' := by
  have hl := Kd.of_lit _ hk (by simp)
  simp only [Kd.lit] at hl
  have h_vSgn := fun w => vSgn_any k w
  have h_vUns := fun w => vUns_any k w
  have h_vLst := fun w => vLst_any k w
  have h_vGrt := fun w => vGrt_any k w
  have h_vMst := fun w => vMst_any k w
  rw [hk] at h_vSgn h_vUns h_vLst h_vGrt h_vMst
  rw [show Kd.vSgn (.int .u8) = false from rfl] at h_vSgn
  rw [show Kd.vUns (.int .u8) = true from rfl] at h_vUns
  rw [show Kd.vLst (.int .u8) = -128 from rfl] at h_vLst
  rw [show Kd.vGrt (.int .u8) = 127 from rfl] at h_vGrt
  rw [show Kd.vMst (.int .u8) = 255 from rfl] at h_vMst
  have H_vSgn := Lib.hid h_vSgn
  have H_vUns := Lib.hid h_vUns
  have H_vLst := Lib.hid h_vLst
  have H_vGrt := Lib.hid h_vGrt
  have H_vMst := Lib.hid h_vMst
  clear hk h_vSgn h_vUns h_vLst h_vGrt h_vMst
  have hfb := run_f64bits f
  go_enter Try.func31, Try.ntmps31
  go_wp2
  go_quiet (fail)
  go_wp2_with (first | (go_at_call 46; refine (H_vSgn.out _).mono ?_; rintro e w' ⟨rfl, rfl⟩) | (go_at_call 49; refine (H_vUns.out _).mono ?_; rintro e w' ⟨rfl, rfl⟩) | (go_at_call 47; refine (H_vLst.out _).mono ?_; rintro e w' ⟨rfl, rfl⟩) | (go_at_call 48; refine (H_vGrt.out _).mono ?_; rintro e w' ⟨rfl, rfl⟩) | (go_at_call 50; refine (H_vMst.out _).mono ?_; rintro e w' ⟨rfl, rfl⟩))
  go_quiet ((first | (go_at_call 46; exact quiet_add_left (H_vSgn.out _)) | (go_at_call 49; exact quiet_add_left (H_vUns.out _)) | (go_at_call 47; exact quiet_add_left (H_vLst.out _)) | (go_at_call 48; exact quiet_add_left (H_vGrt.out _)) | (go_at_call 50; exact quiet_add_left (H_vMst.out _))))
  go_wp2
  go_ret
  exact ⟨rfl, by repeat (first | exact Below.refl _ _ | exact (Below.refl _ _).alloc (Nat.le_refl _) _ | refine below_drewN ?_ _)⟩

set_option maxRecDepth 100000 in
set_option maxHeartbeats 1000000 in
theorem sval_u16 (k : ByteArray) (hk : Kd.of k.toList = (.int .u16)) (n u : Int) (f : Nat) (s : ByteArray) (h2 : u ≤ 65535) (hn : (n == 0) = true) (hf : ((f : Int) == 0) = true) (hs : s.toList.isEmpty = true) (w : World) :
    Calls Try.prog 31 #[.agg #[.string k, .int .i64 n, .int .u64 u, .float .f64 f, .string s]] w fun e w' => e = .returned (.bool true) ∧ Below w.heap.size w w' := by
  have hl := Kd.of_lit _ hk (by simp)
  simp only [Kd.lit] at hl
  have h_vSgn := fun w => vSgn_any k w
  have h_vUns := fun w => vUns_any k w
  have h_vLst := fun w => vLst_any k w
  have h_vGrt := fun w => vGrt_any k w
  have h_vMst := fun w => vMst_any k w
  rw [hk] at h_vSgn h_vUns h_vLst h_vGrt h_vMst
  rw [show Kd.vSgn (.int .u16) = false from rfl] at h_vSgn
  rw [show Kd.vUns (.int .u16) = true from rfl] at h_vUns
  rw [show Kd.vLst (.int .u16) = -32768 from rfl] at h_vLst
  rw [show Kd.vGrt (.int .u16) = 32767 from rfl] at h_vGrt
  rw [show Kd.vMst (.int .u16) = 65535 from rfl] at h_vMst
  have H_vSgn := Lib.hid h_vSgn
  have H_vUns := Lib.hid h_vUns
  have H_vLst := Lib.hid h_vLst
  have H_vGrt := Lib.hid h_vGrt
  have H_vMst := Lib.hid h_vMst
  clear hk h_vSgn h_vUns h_vLst h_vGrt h_vMst
  have hfb := run_f64bits f
  go_enter Try.func31, Try.ntmps31
  go_wp2
  go_quiet (fail)
  go_wp2_with (first | (go_at_call 46; refine (H_vSgn.out _).mono ?_; rintro e w' ⟨rfl, rfl⟩) | (go_at_call 49; refine (H_vUns.out _).mono ?_; rintro e w' ⟨rfl, rfl⟩) | (go_at_call 47; refine (H_vLst.out _).mono ?_; rintro e w' ⟨rfl, rfl⟩) | (go_at_call 48; refine (H_vGrt.out _).mono ?_; rintro e w' ⟨rfl, rfl⟩) | (go_at_call 50; refine (H_vMst.out _).mono ?_; rintro e w' ⟨rfl, rfl⟩))
  go_quiet ((first | (go_at_call 46; exact quiet_add_left (H_vSgn.out _)) | (go_at_call 49; exact quiet_add_left (H_vUns.out _)) | (go_at_call 47; exact quiet_add_left (H_vLst.out _)) | (go_at_call 48; exact quiet_add_left (H_vGrt.out _)) | (go_at_call 50; exact quiet_add_left (H_vMst.out _))))
  go_wp2
  go_ret
  exact ⟨rfl, by repeat (first | exact Below.refl _ _ | exact (Below.refl _ _).alloc (Nat.le_refl _) _ | refine below_drewN ?_ _)⟩

set_option maxRecDepth 100000 in
set_option maxHeartbeats 1000000 in
theorem sval_u32 (k : ByteArray) (hk : Kd.of k.toList = (.int .u32)) (n u : Int) (f : Nat) (s : ByteArray) (h2 : u ≤ 4294967295) (hn : (n == 0) = true) (hf : ((f : Int) == 0) = true) (hs : s.toList.isEmpty = true) (w : World) :
    Calls Try.prog 31 #[.agg #[.string k, .int .i64 n, .int .u64 u, .float .f64 f, .string s]] w fun e w' => e = .returned (.bool true) ∧ Below w.heap.size w w' := by
  have hl := Kd.of_lit _ hk (by simp)
  simp only [Kd.lit] at hl
  have h_vSgn := fun w => vSgn_any k w
  have h_vUns := fun w => vUns_any k w
  have h_vLst := fun w => vLst_any k w
  have h_vGrt := fun w => vGrt_any k w
  have h_vMst := fun w => vMst_any k w
  rw [hk] at h_vSgn h_vUns h_vLst h_vGrt h_vMst
  rw [show Kd.vSgn (.int .u32) = false from rfl] at h_vSgn
  rw [show Kd.vUns (.int .u32) = true from rfl] at h_vUns
  rw [show Kd.vLst (.int .u32) = -2147483648 from rfl] at h_vLst
  rw [show Kd.vGrt (.int .u32) = 2147483647 from rfl] at h_vGrt
  rw [show Kd.vMst (.int .u32) = 4294967295 from rfl] at h_vMst
  have H_vSgn := Lib.hid h_vSgn
  have H_vUns := Lib.hid h_vUns
  have H_vLst := Lib.hid h_vLst
  have H_vGrt := Lib.hid h_vGrt
  have H_vMst := Lib.hid h_vMst
  clear hk h_vSgn h_vUns h_vLst h_vGrt h_vMst
  have hfb := run_f64bits f
  go_enter Try.func31, Try.ntmps31
  go_wp2
  go_quiet (fail)
  go_wp2_with (first | (go_at_call 46; refine (H_vSgn.out _).mono ?_; rintro e w' ⟨rfl, rfl⟩) | (go_at_call 49; refine (H_vUns.out _).mono ?_; rintro e w' ⟨rfl, rfl⟩) | (go_at_call 47; refine (H_vLst.out _).mono ?_; rintro e w' ⟨rfl, rfl⟩) | (go_at_call 48; refine (H_vGrt.out _).mono ?_; rintro e w' ⟨rfl, rfl⟩) | (go_at_call 50; refine (H_vMst.out _).mono ?_; rintro e w' ⟨rfl, rfl⟩))
  go_quiet ((first | (go_at_call 46; exact quiet_add_left (H_vSgn.out _)) | (go_at_call 49; exact quiet_add_left (H_vUns.out _)) | (go_at_call 47; exact quiet_add_left (H_vLst.out _)) | (go_at_call 48; exact quiet_add_left (H_vGrt.out _)) | (go_at_call 50; exact quiet_add_left (H_vMst.out _))))
  go_wp2
  go_ret
  exact ⟨rfl, by repeat (first | exact Below.refl _ _ | exact (Below.refl _ _).alloc (Nat.le_refl _) _ | refine below_drewN ?_ _)⟩

set_option maxRecDepth 100000 in
set_option maxHeartbeats 1000000 in
theorem sval_u64 (k : ByteArray) (hk : Kd.of k.toList = (.int .u64)) (n u : Int) (f : Nat) (s : ByteArray) (h2 : u ≤ 18446744073709551615) (hn : (n == 0) = true) (hf : ((f : Int) == 0) = true) (hs : s.toList.isEmpty = true) (w : World) :
    Calls Try.prog 31 #[.agg #[.string k, .int .i64 n, .int .u64 u, .float .f64 f, .string s]] w fun e w' => e = .returned (.bool true) ∧ Below w.heap.size w w' := by
  have hl := Kd.of_lit _ hk (by simp)
  simp only [Kd.lit] at hl
  have h_vSgn := fun w => vSgn_any k w
  have h_vUns := fun w => vUns_any k w
  have h_vLst := fun w => vLst_any k w
  have h_vGrt := fun w => vGrt_any k w
  have h_vMst := fun w => vMst_any k w
  rw [hk] at h_vSgn h_vUns h_vLst h_vGrt h_vMst
  rw [show Kd.vSgn (.int .u64) = false from rfl] at h_vSgn
  rw [show Kd.vUns (.int .u64) = true from rfl] at h_vUns
  rw [show Kd.vLst (.int .u64) = -9223372036854775808 from rfl] at h_vLst
  rw [show Kd.vGrt (.int .u64) = 9223372036854775807 from rfl] at h_vGrt
  rw [show Kd.vMst (.int .u64) = 18446744073709551615 from rfl] at h_vMst
  have H_vSgn := Lib.hid h_vSgn
  have H_vUns := Lib.hid h_vUns
  have H_vLst := Lib.hid h_vLst
  have H_vGrt := Lib.hid h_vGrt
  have H_vMst := Lib.hid h_vMst
  clear hk h_vSgn h_vUns h_vLst h_vGrt h_vMst
  have hfb := run_f64bits f
  go_enter Try.func31, Try.ntmps31
  go_wp2
  go_quiet (fail)
  go_wp2_with (first | (go_at_call 46; refine (H_vSgn.out _).mono ?_; rintro e w' ⟨rfl, rfl⟩) | (go_at_call 49; refine (H_vUns.out _).mono ?_; rintro e w' ⟨rfl, rfl⟩) | (go_at_call 47; refine (H_vLst.out _).mono ?_; rintro e w' ⟨rfl, rfl⟩) | (go_at_call 48; refine (H_vGrt.out _).mono ?_; rintro e w' ⟨rfl, rfl⟩) | (go_at_call 50; refine (H_vMst.out _).mono ?_; rintro e w' ⟨rfl, rfl⟩))
  go_quiet ((first | (go_at_call 46; exact quiet_add_left (H_vSgn.out _)) | (go_at_call 49; exact quiet_add_left (H_vUns.out _)) | (go_at_call 47; exact quiet_add_left (H_vLst.out _)) | (go_at_call 48; exact quiet_add_left (H_vGrt.out _)) | (go_at_call 50; exact quiet_add_left (H_vMst.out _))))
  go_wp2
  go_ret
  exact ⟨rfl, by repeat (first | exact Below.refl _ _ | exact (Below.refl _ _).alloc (Nat.le_refl _) _ | refine below_drewN ?_ _)⟩

set_option maxRecDepth 100000 in
set_option maxHeartbeats 1000000 in
theorem sval_f64 (k : ByteArray) (hk : Kd.of k.toList = .f64) (n u : Int) (f : Nat) (s : ByteArray) (hn : (n == 0) = true) (hu : (u == 0) = true) (hs : s.toList.isEmpty = true) (w : World) :
    Calls Try.prog 31 #[.agg #[.string k, .int .i64 n, .int .u64 u, .float .f64 f, .string s]] w fun e w' => e = .returned (.bool true) ∧ Below w.heap.size w w' := by
  have hl := Kd.of_lit _ hk (by simp)
  simp only [Kd.lit] at hl
  have h_vSgn := fun w => vSgn_any k w
  have h_vUns := fun w => vUns_any k w
  have h_vLst := fun w => vLst_any k w
  have h_vGrt := fun w => vGrt_any k w
  have h_vMst := fun w => vMst_any k w
  rw [hk] at h_vSgn h_vUns h_vLst h_vGrt h_vMst
  rw [show Kd.vSgn .f64 = false from rfl] at h_vSgn
  rw [show Kd.vUns .f64 = false from rfl] at h_vUns
  rw [show Kd.vLst .f64 = -9223372036854775808 from rfl] at h_vLst
  rw [show Kd.vGrt .f64 = 9223372036854775807 from rfl] at h_vGrt
  rw [show Kd.vMst .f64 = 18446744073709551615 from rfl] at h_vMst
  have H_vSgn := Lib.hid h_vSgn
  have H_vUns := Lib.hid h_vUns
  have H_vLst := Lib.hid h_vLst
  have H_vGrt := Lib.hid h_vGrt
  have H_vMst := Lib.hid h_vMst
  clear hk h_vSgn h_vUns h_vLst h_vGrt h_vMst
  have hfb := run_f64bits f
  go_enter Try.func31, Try.ntmps31
  go_wp2
  go_quiet (fail)
  go_wp2_with (first | (go_at_call 46; refine (H_vSgn.out _).mono ?_; rintro e w' ⟨rfl, rfl⟩) | (go_at_call 49; refine (H_vUns.out _).mono ?_; rintro e w' ⟨rfl, rfl⟩) | (go_at_call 47; refine (H_vLst.out _).mono ?_; rintro e w' ⟨rfl, rfl⟩) | (go_at_call 48; refine (H_vGrt.out _).mono ?_; rintro e w' ⟨rfl, rfl⟩) | (go_at_call 50; refine (H_vMst.out _).mono ?_; rintro e w' ⟨rfl, rfl⟩))
  go_ret
  exact ⟨rfl, by repeat (first | exact Below.refl _ _ | exact (Below.refl _ _).alloc (Nat.le_refl _) _ | refine below_drewN ?_ _)⟩

set_option maxRecDepth 100000 in
set_option maxHeartbeats 1000000 in
theorem sval_str (k : ByteArray) (hk : Kd.of k.toList = .str) (n u : Int) (f : Nat) (s : ByteArray) (hn : (n == 0) = true) (hu : (u == 0) = true) (hf : ((f : Int) == 0) = true) (w : World) :
    Calls Try.prog 31 #[.agg #[.string k, .int .i64 n, .int .u64 u, .float .f64 f, .string s]] w fun e w' => e = .returned (.bool true) ∧ Below w.heap.size w w' := by
  have hl := Kd.of_lit _ hk (by simp)
  simp only [Kd.lit] at hl
  have h_vSgn := fun w => vSgn_any k w
  have h_vUns := fun w => vUns_any k w
  have h_vLst := fun w => vLst_any k w
  have h_vGrt := fun w => vGrt_any k w
  have h_vMst := fun w => vMst_any k w
  rw [hk] at h_vSgn h_vUns h_vLst h_vGrt h_vMst
  rw [show Kd.vSgn .str = false from rfl] at h_vSgn
  rw [show Kd.vUns .str = false from rfl] at h_vUns
  rw [show Kd.vLst .str = -9223372036854775808 from rfl] at h_vLst
  rw [show Kd.vGrt .str = 9223372036854775807 from rfl] at h_vGrt
  rw [show Kd.vMst .str = 18446744073709551615 from rfl] at h_vMst
  have H_vSgn := Lib.hid h_vSgn
  have H_vUns := Lib.hid h_vUns
  have H_vLst := Lib.hid h_vLst
  have H_vGrt := Lib.hid h_vGrt
  have H_vMst := Lib.hid h_vMst
  clear hk h_vSgn h_vUns h_vLst h_vGrt h_vMst
  have hfb := run_f64bits f
  go_enter Try.func31, Try.ntmps31
  go_wp2
  go_quiet (fail)
  go_wp2_with (first | (go_at_call 46; refine (H_vSgn.out _).mono ?_; rintro e w' ⟨rfl, rfl⟩) | (go_at_call 49; refine (H_vUns.out _).mono ?_; rintro e w' ⟨rfl, rfl⟩) | (go_at_call 47; refine (H_vLst.out _).mono ?_; rintro e w' ⟨rfl, rfl⟩) | (go_at_call 48; refine (H_vGrt.out _).mono ?_; rintro e w' ⟨rfl, rfl⟩) | (go_at_call 50; refine (H_vMst.out _).mono ?_; rintro e w' ⟨rfl, rfl⟩))
  go_ret
  exact ⟨rfl, by repeat (first | exact Below.refl _ _ | exact (Below.refl _ _).alloc (Nat.le_refl _) _ | refine below_drewN ?_ _)⟩

end Go.Proofs.Ytamekjbdpcflfaa
