/-
  The walk of laws.valid, kind by kind. PRINTED BY wip/tpl/gen_valid.py.
-/
import Derived.Test.YtffgkocokkhahaaDoorTp01

/- The walk of laws.valid, kind by kind. PRINTED BY wip/tpl/gen_valid.py. -/
namespace Go.Proofs.YtffgkocokkhahaaDoor
open Go.RowKit

set_option maxRecDepth 100000 in
set_option maxHeartbeats 1000000 in
theorem valid_i8 (k : ByteArray) (hk : Kd.of k.toList = (.int .i8)) (n u : Int) (f : Nat) (s : ByteArray) (w : World) :
    Calls Tryd.prog 33 #[.agg #[.string k, .int .i64 n, .int .u64 u, .float .f64 f, .string s]] w fun e w' => e = .returned (.bool (validB (.int .i8) n u f s)) ∧ Below w.heap.size w w' := by
  have hl := Kd.of_lit _ hk (by simp)
  simp only [Kd.lit] at hl
  have hw := fun w => width_any k w
  have hfl := fun w => isFloat_any k w
  rw [hk] at hw hfl
  simp only [Kd.width, Kd.sgn, Kd.flt] at hw hfl
  have HW := Lib.hid hw
  have HF := Lib.hid hfl
  clear hw hfl hk
  by_cases hu : u = 0
  · have hu' : (u == 0) = true := by simp [hu]
    by_cases hf : bitsV f = 0
    · have hf' : ((bitsV f : Int) == 0) = true := by simp [hf]
      by_cases hs : s.toList.isEmpty = true
      · have hs' : s.toList.isEmpty = true := hs
        have hv : validB (.int .i8) n u f s = (n / 128 == n / 9223372036854775808) := by simp [validB, zeros, hu, hf, hs]
        have HV := Lib.hid hv
        clear hv hu hf hs
        go_enter Tryd.func33, Tryd.ntmps33
        go_wp2_with (first | (go_at_call 68; refine (HW.out _).mono ?_; rintro e w' ⟨rfl, rfl⟩) | (go_at_call 69; refine (HF.out _).mono ?_; rintro e w' ⟨rfl, rfl⟩) | (go_at_call 67; refine (bits_any _ _).mono ?_; rintro e w' ⟨rfl, rfl⟩))
        go_quiet ((go_at_call 67; exact quiet_of_left (bits_any _ _)))
        go_wp2
        go_ret
        rw [HV.out]
        exact ⟨rfl, by repeat (first | exact Below.refl _ _ | exact (Below.refl _ _).alloc (Nat.le_refl _) _ | exact below_drewN ((Below.refl _ _).alloc (Nat.le_refl _) _) _)⟩
      · have hs' : s.toList.isEmpty = false := by simpa using hs
        have hv : validB (.int .i8) n u f s = false := by simp [validB, zeros, hu, hf, hs]
        have HV := Lib.hid hv
        clear hv hu hf hs
        go_enter Tryd.func33, Tryd.ntmps33
        go_wp2_with (first | (go_at_call 68; refine (HW.out _).mono ?_; rintro e w' ⟨rfl, rfl⟩) | (go_at_call 69; refine (HF.out _).mono ?_; rintro e w' ⟨rfl, rfl⟩) | (go_at_call 67; refine (bits_any _ _).mono ?_; rintro e w' ⟨rfl, rfl⟩))
        go_quiet ((go_at_call 67; exact quiet_of_left (bits_any _ _)))
        go_wp2
        go_ret
        rw [HV.out]
        exact ⟨rfl, by repeat (first | exact Below.refl _ _ | exact (Below.refl _ _).alloc (Nat.le_refl _) _ | exact below_drewN ((Below.refl _ _).alloc (Nat.le_refl _) _) _)⟩
    · have hf' : ((bitsV f : Int) == 0) = false := by simp; omega
      have hv : validB (.int .i8) n u f s = false := by simp [validB, zeros, hu, hf]
      have HV := Lib.hid hv
      clear hv hu hf
      go_enter Tryd.func33, Tryd.ntmps33
      go_wp2_with (first | (go_at_call 68; refine (HW.out _).mono ?_; rintro e w' ⟨rfl, rfl⟩) | (go_at_call 69; refine (HF.out _).mono ?_; rintro e w' ⟨rfl, rfl⟩) | (go_at_call 67; refine (bits_any _ _).mono ?_; rintro e w' ⟨rfl, rfl⟩))
      go_quiet ((go_at_call 67; exact quiet_of_left (bits_any _ _)))
      go_wp2
      go_ret
      rw [HV.out]
      exact ⟨rfl, by repeat (first | exact Below.refl _ _ | exact (Below.refl _ _).alloc (Nat.le_refl _) _ | exact below_drewN ((Below.refl _ _).alloc (Nat.le_refl _) _) _)⟩
  · have hu' : (u == 0) = false := by simp [hu]
    have hv : validB (.int .i8) n u f s = false := by simp [validB, zeros, hu]
    have HV := Lib.hid hv
    clear hv hu
    go_enter Tryd.func33, Tryd.ntmps33
    go_wp2_with (first | (go_at_call 68; refine (HW.out _).mono ?_; rintro e w' ⟨rfl, rfl⟩) | (go_at_call 69; refine (HF.out _).mono ?_; rintro e w' ⟨rfl, rfl⟩) | (go_at_call 67; refine (bits_any _ _).mono ?_; rintro e w' ⟨rfl, rfl⟩))
    go_quiet ((go_at_call 67; exact quiet_of_left (bits_any _ _)))
    go_wp2
    go_ret
    rw [HV.out]
    exact ⟨rfl, by repeat (first | exact Below.refl _ _ | exact (Below.refl _ _).alloc (Nat.le_refl _) _ | exact below_drewN ((Below.refl _ _).alloc (Nat.le_refl _) _) _)⟩

set_option maxRecDepth 100000 in
set_option maxHeartbeats 1000000 in
theorem valid_i16 (k : ByteArray) (hk : Kd.of k.toList = (.int .i16)) (n u : Int) (f : Nat) (s : ByteArray) (w : World) :
    Calls Tryd.prog 33 #[.agg #[.string k, .int .i64 n, .int .u64 u, .float .f64 f, .string s]] w fun e w' => e = .returned (.bool (validB (.int .i16) n u f s)) ∧ Below w.heap.size w w' := by
  have hl := Kd.of_lit _ hk (by simp)
  simp only [Kd.lit] at hl
  have hw := fun w => width_any k w
  have hfl := fun w => isFloat_any k w
  rw [hk] at hw hfl
  simp only [Kd.width, Kd.sgn, Kd.flt] at hw hfl
  have HW := Lib.hid hw
  have HF := Lib.hid hfl
  clear hw hfl hk
  by_cases hu : u = 0
  · have hu' : (u == 0) = true := by simp [hu]
    by_cases hf : bitsV f = 0
    · have hf' : ((bitsV f : Int) == 0) = true := by simp [hf]
      by_cases hs : s.toList.isEmpty = true
      · have hs' : s.toList.isEmpty = true := hs
        have hv : validB (.int .i16) n u f s = (n / 32768 == n / 9223372036854775808) := by simp [validB, zeros, hu, hf, hs]
        have HV := Lib.hid hv
        clear hv hu hf hs
        go_enter Tryd.func33, Tryd.ntmps33
        go_wp2_with (first | (go_at_call 68; refine (HW.out _).mono ?_; rintro e w' ⟨rfl, rfl⟩) | (go_at_call 69; refine (HF.out _).mono ?_; rintro e w' ⟨rfl, rfl⟩) | (go_at_call 67; refine (bits_any _ _).mono ?_; rintro e w' ⟨rfl, rfl⟩))
        go_quiet ((go_at_call 67; exact quiet_of_left (bits_any _ _)))
        go_wp2
        go_ret
        rw [HV.out]
        exact ⟨rfl, by repeat (first | exact Below.refl _ _ | exact (Below.refl _ _).alloc (Nat.le_refl _) _ | exact below_drewN ((Below.refl _ _).alloc (Nat.le_refl _) _) _)⟩
      · have hs' : s.toList.isEmpty = false := by simpa using hs
        have hv : validB (.int .i16) n u f s = false := by simp [validB, zeros, hu, hf, hs]
        have HV := Lib.hid hv
        clear hv hu hf hs
        go_enter Tryd.func33, Tryd.ntmps33
        go_wp2_with (first | (go_at_call 68; refine (HW.out _).mono ?_; rintro e w' ⟨rfl, rfl⟩) | (go_at_call 69; refine (HF.out _).mono ?_; rintro e w' ⟨rfl, rfl⟩) | (go_at_call 67; refine (bits_any _ _).mono ?_; rintro e w' ⟨rfl, rfl⟩))
        go_quiet ((go_at_call 67; exact quiet_of_left (bits_any _ _)))
        go_wp2
        go_ret
        rw [HV.out]
        exact ⟨rfl, by repeat (first | exact Below.refl _ _ | exact (Below.refl _ _).alloc (Nat.le_refl _) _ | exact below_drewN ((Below.refl _ _).alloc (Nat.le_refl _) _) _)⟩
    · have hf' : ((bitsV f : Int) == 0) = false := by simp; omega
      have hv : validB (.int .i16) n u f s = false := by simp [validB, zeros, hu, hf]
      have HV := Lib.hid hv
      clear hv hu hf
      go_enter Tryd.func33, Tryd.ntmps33
      go_wp2_with (first | (go_at_call 68; refine (HW.out _).mono ?_; rintro e w' ⟨rfl, rfl⟩) | (go_at_call 69; refine (HF.out _).mono ?_; rintro e w' ⟨rfl, rfl⟩) | (go_at_call 67; refine (bits_any _ _).mono ?_; rintro e w' ⟨rfl, rfl⟩))
      go_quiet ((go_at_call 67; exact quiet_of_left (bits_any _ _)))
      go_wp2
      go_ret
      rw [HV.out]
      exact ⟨rfl, by repeat (first | exact Below.refl _ _ | exact (Below.refl _ _).alloc (Nat.le_refl _) _ | exact below_drewN ((Below.refl _ _).alloc (Nat.le_refl _) _) _)⟩
  · have hu' : (u == 0) = false := by simp [hu]
    have hv : validB (.int .i16) n u f s = false := by simp [validB, zeros, hu]
    have HV := Lib.hid hv
    clear hv hu
    go_enter Tryd.func33, Tryd.ntmps33
    go_wp2_with (first | (go_at_call 68; refine (HW.out _).mono ?_; rintro e w' ⟨rfl, rfl⟩) | (go_at_call 69; refine (HF.out _).mono ?_; rintro e w' ⟨rfl, rfl⟩) | (go_at_call 67; refine (bits_any _ _).mono ?_; rintro e w' ⟨rfl, rfl⟩))
    go_quiet ((go_at_call 67; exact quiet_of_left (bits_any _ _)))
    go_wp2
    go_ret
    rw [HV.out]
    exact ⟨rfl, by repeat (first | exact Below.refl _ _ | exact (Below.refl _ _).alloc (Nat.le_refl _) _ | exact below_drewN ((Below.refl _ _).alloc (Nat.le_refl _) _) _)⟩

set_option maxRecDepth 100000 in
set_option maxHeartbeats 1000000 in
theorem valid_i32 (k : ByteArray) (hk : Kd.of k.toList = (.int .i32)) (n u : Int) (f : Nat) (s : ByteArray) (w : World) :
    Calls Tryd.prog 33 #[.agg #[.string k, .int .i64 n, .int .u64 u, .float .f64 f, .string s]] w fun e w' => e = .returned (.bool (validB (.int .i32) n u f s)) ∧ Below w.heap.size w w' := by
  have hl := Kd.of_lit _ hk (by simp)
  simp only [Kd.lit] at hl
  have hw := fun w => width_any k w
  have hfl := fun w => isFloat_any k w
  rw [hk] at hw hfl
  simp only [Kd.width, Kd.sgn, Kd.flt] at hw hfl
  have HW := Lib.hid hw
  have HF := Lib.hid hfl
  clear hw hfl hk
  by_cases hu : u = 0
  · have hu' : (u == 0) = true := by simp [hu]
    by_cases hf : bitsV f = 0
    · have hf' : ((bitsV f : Int) == 0) = true := by simp [hf]
      by_cases hs : s.toList.isEmpty = true
      · have hs' : s.toList.isEmpty = true := hs
        have hv : validB (.int .i32) n u f s = (n / 2147483648 == n / 9223372036854775808) := by simp [validB, zeros, hu, hf, hs]
        have HV := Lib.hid hv
        clear hv hu hf hs
        go_enter Tryd.func33, Tryd.ntmps33
        go_wp2_with (first | (go_at_call 68; refine (HW.out _).mono ?_; rintro e w' ⟨rfl, rfl⟩) | (go_at_call 69; refine (HF.out _).mono ?_; rintro e w' ⟨rfl, rfl⟩) | (go_at_call 67; refine (bits_any _ _).mono ?_; rintro e w' ⟨rfl, rfl⟩))
        go_quiet ((go_at_call 67; exact quiet_of_left (bits_any _ _)))
        go_wp2
        go_ret
        rw [HV.out]
        exact ⟨rfl, by repeat (first | exact Below.refl _ _ | exact (Below.refl _ _).alloc (Nat.le_refl _) _ | exact below_drewN ((Below.refl _ _).alloc (Nat.le_refl _) _) _)⟩
      · have hs' : s.toList.isEmpty = false := by simpa using hs
        have hv : validB (.int .i32) n u f s = false := by simp [validB, zeros, hu, hf, hs]
        have HV := Lib.hid hv
        clear hv hu hf hs
        go_enter Tryd.func33, Tryd.ntmps33
        go_wp2_with (first | (go_at_call 68; refine (HW.out _).mono ?_; rintro e w' ⟨rfl, rfl⟩) | (go_at_call 69; refine (HF.out _).mono ?_; rintro e w' ⟨rfl, rfl⟩) | (go_at_call 67; refine (bits_any _ _).mono ?_; rintro e w' ⟨rfl, rfl⟩))
        go_quiet ((go_at_call 67; exact quiet_of_left (bits_any _ _)))
        go_wp2
        go_ret
        rw [HV.out]
        exact ⟨rfl, by repeat (first | exact Below.refl _ _ | exact (Below.refl _ _).alloc (Nat.le_refl _) _ | exact below_drewN ((Below.refl _ _).alloc (Nat.le_refl _) _) _)⟩
    · have hf' : ((bitsV f : Int) == 0) = false := by simp; omega
      have hv : validB (.int .i32) n u f s = false := by simp [validB, zeros, hu, hf]
      have HV := Lib.hid hv
      clear hv hu hf
      go_enter Tryd.func33, Tryd.ntmps33
      go_wp2_with (first | (go_at_call 68; refine (HW.out _).mono ?_; rintro e w' ⟨rfl, rfl⟩) | (go_at_call 69; refine (HF.out _).mono ?_; rintro e w' ⟨rfl, rfl⟩) | (go_at_call 67; refine (bits_any _ _).mono ?_; rintro e w' ⟨rfl, rfl⟩))
      go_quiet ((go_at_call 67; exact quiet_of_left (bits_any _ _)))
      go_wp2
      go_ret
      rw [HV.out]
      exact ⟨rfl, by repeat (first | exact Below.refl _ _ | exact (Below.refl _ _).alloc (Nat.le_refl _) _ | exact below_drewN ((Below.refl _ _).alloc (Nat.le_refl _) _) _)⟩
  · have hu' : (u == 0) = false := by simp [hu]
    have hv : validB (.int .i32) n u f s = false := by simp [validB, zeros, hu]
    have HV := Lib.hid hv
    clear hv hu
    go_enter Tryd.func33, Tryd.ntmps33
    go_wp2_with (first | (go_at_call 68; refine (HW.out _).mono ?_; rintro e w' ⟨rfl, rfl⟩) | (go_at_call 69; refine (HF.out _).mono ?_; rintro e w' ⟨rfl, rfl⟩) | (go_at_call 67; refine (bits_any _ _).mono ?_; rintro e w' ⟨rfl, rfl⟩))
    go_quiet ((go_at_call 67; exact quiet_of_left (bits_any _ _)))
    go_wp2
    go_ret
    rw [HV.out]
    exact ⟨rfl, by repeat (first | exact Below.refl _ _ | exact (Below.refl _ _).alloc (Nat.le_refl _) _ | exact below_drewN ((Below.refl _ _).alloc (Nat.le_refl _) _) _)⟩

set_option maxRecDepth 100000 in
set_option maxHeartbeats 1000000 in
theorem valid_i64 (k : ByteArray) (hk : Kd.of k.toList = (.int .i64)) (n u : Int) (f : Nat) (s : ByteArray) (w : World) :
    Calls Tryd.prog 33 #[.agg #[.string k, .int .i64 n, .int .u64 u, .float .f64 f, .string s]] w fun e w' => e = .returned (.bool (validB (.int .i64) n u f s)) ∧ Below w.heap.size w w' := by
  have hl := Kd.of_lit _ hk (by simp)
  simp only [Kd.lit] at hl
  have hw := fun w => width_any k w
  have hfl := fun w => isFloat_any k w
  rw [hk] at hw hfl
  simp only [Kd.width, Kd.sgn, Kd.flt] at hw hfl
  have HW := Lib.hid hw
  have HF := Lib.hid hfl
  clear hw hfl hk
  by_cases hu : u = 0
  · have hu' : (u == 0) = true := by simp [hu]
    by_cases hf : bitsV f = 0
    · have hf' : ((bitsV f : Int) == 0) = true := by simp [hf]
      by_cases hs : s.toList.isEmpty = true
      · have hs' : s.toList.isEmpty = true := hs
        have hv : validB (.int .i64) n u f s = true := by simp [validB, zeros, hu, hf, hs]
        have HV := Lib.hid hv
        clear hv hu hf hs
        go_enter Tryd.func33, Tryd.ntmps33
        go_wp2_with (first | (go_at_call 68; refine (HW.out _).mono ?_; rintro e w' ⟨rfl, rfl⟩) | (go_at_call 69; refine (HF.out _).mono ?_; rintro e w' ⟨rfl, rfl⟩) | (go_at_call 67; refine (bits_any _ _).mono ?_; rintro e w' ⟨rfl, rfl⟩))
        go_quiet ((go_at_call 67; exact quiet_of_left (bits_any _ _)))
        go_wp2
        go_ret
        rw [HV.out]
        exact ⟨rfl, by repeat (first | exact Below.refl _ _ | exact (Below.refl _ _).alloc (Nat.le_refl _) _ | exact below_drewN ((Below.refl _ _).alloc (Nat.le_refl _) _) _)⟩
      · have hs' : s.toList.isEmpty = false := by simpa using hs
        have hv : validB (.int .i64) n u f s = false := by simp [validB, zeros, hu, hf, hs]
        have HV := Lib.hid hv
        clear hv hu hf hs
        go_enter Tryd.func33, Tryd.ntmps33
        go_wp2_with (first | (go_at_call 68; refine (HW.out _).mono ?_; rintro e w' ⟨rfl, rfl⟩) | (go_at_call 69; refine (HF.out _).mono ?_; rintro e w' ⟨rfl, rfl⟩) | (go_at_call 67; refine (bits_any _ _).mono ?_; rintro e w' ⟨rfl, rfl⟩))
        go_quiet ((go_at_call 67; exact quiet_of_left (bits_any _ _)))
        go_wp2
        go_ret
        rw [HV.out]
        exact ⟨rfl, by repeat (first | exact Below.refl _ _ | exact (Below.refl _ _).alloc (Nat.le_refl _) _ | exact below_drewN ((Below.refl _ _).alloc (Nat.le_refl _) _) _)⟩
    · have hf' : ((bitsV f : Int) == 0) = false := by simp; omega
      have hv : validB (.int .i64) n u f s = false := by simp [validB, zeros, hu, hf]
      have HV := Lib.hid hv
      clear hv hu hf
      go_enter Tryd.func33, Tryd.ntmps33
      go_wp2_with (first | (go_at_call 68; refine (HW.out _).mono ?_; rintro e w' ⟨rfl, rfl⟩) | (go_at_call 69; refine (HF.out _).mono ?_; rintro e w' ⟨rfl, rfl⟩) | (go_at_call 67; refine (bits_any _ _).mono ?_; rintro e w' ⟨rfl, rfl⟩))
      go_quiet ((go_at_call 67; exact quiet_of_left (bits_any _ _)))
      go_wp2
      go_ret
      rw [HV.out]
      exact ⟨rfl, by repeat (first | exact Below.refl _ _ | exact (Below.refl _ _).alloc (Nat.le_refl _) _ | exact below_drewN ((Below.refl _ _).alloc (Nat.le_refl _) _) _)⟩
  · have hu' : (u == 0) = false := by simp [hu]
    have hv : validB (.int .i64) n u f s = false := by simp [validB, zeros, hu]
    have HV := Lib.hid hv
    clear hv hu
    go_enter Tryd.func33, Tryd.ntmps33
    go_wp2_with (first | (go_at_call 68; refine (HW.out _).mono ?_; rintro e w' ⟨rfl, rfl⟩) | (go_at_call 69; refine (HF.out _).mono ?_; rintro e w' ⟨rfl, rfl⟩) | (go_at_call 67; refine (bits_any _ _).mono ?_; rintro e w' ⟨rfl, rfl⟩))
    go_quiet ((go_at_call 67; exact quiet_of_left (bits_any _ _)))
    go_wp2
    go_ret
    rw [HV.out]
    exact ⟨rfl, by repeat (first | exact Below.refl _ _ | exact (Below.refl _ _).alloc (Nat.le_refl _) _ | exact below_drewN ((Below.refl _ _).alloc (Nat.le_refl _) _) _)⟩

set_option maxRecDepth 100000 in
set_option maxHeartbeats 1000000 in
theorem valid_iRune (k : ByteArray) (hk : Kd.of k.toList = .iRune) (n u : Int) (f : Nat) (s : ByteArray) (w : World) :
    Calls Tryd.prog 33 #[.agg #[.string k, .int .i64 n, .int .u64 u, .float .f64 f, .string s]] w fun e w' => e = .returned (.bool (validB .iRune n u f s)) ∧ Below w.heap.size w w' := by
  have hl := Kd.of_lit _ hk (by simp)
  simp only [Kd.lit] at hl
  have hw := fun w => width_any k w
  have hfl := fun w => isFloat_any k w
  rw [hk] at hw hfl
  simp only [Kd.width, Kd.sgn, Kd.flt] at hw hfl
  have HW := Lib.hid hw
  have HF := Lib.hid hfl
  clear hw hfl hk
  by_cases hu : u = 0
  · have hu' : (u == 0) = true := by simp [hu]
    by_cases hf : bitsV f = 0
    · have hf' : ((bitsV f : Int) == 0) = true := by simp [hf]
      by_cases hs : s.toList.isEmpty = true
      · have hs' : s.toList.isEmpty = true := hs
        have hv : validB .iRune n u f s = (n / 2147483648 == n / 9223372036854775808) := by simp [validB, zeros, hu, hf, hs]
        have HV := Lib.hid hv
        clear hv hu hf hs
        go_enter Tryd.func33, Tryd.ntmps33
        go_wp2_with (first | (go_at_call 68; refine (HW.out _).mono ?_; rintro e w' ⟨rfl, rfl⟩) | (go_at_call 69; refine (HF.out _).mono ?_; rintro e w' ⟨rfl, rfl⟩) | (go_at_call 67; refine (bits_any _ _).mono ?_; rintro e w' ⟨rfl, rfl⟩))
        go_quiet ((go_at_call 67; exact quiet_of_left (bits_any _ _)))
        go_wp2
        go_ret
        rw [HV.out]
        exact ⟨rfl, by repeat (first | exact Below.refl _ _ | exact (Below.refl _ _).alloc (Nat.le_refl _) _ | exact below_drewN ((Below.refl _ _).alloc (Nat.le_refl _) _) _)⟩
      · have hs' : s.toList.isEmpty = false := by simpa using hs
        have hv : validB .iRune n u f s = false := by simp [validB, zeros, hu, hf, hs]
        have HV := Lib.hid hv
        clear hv hu hf hs
        go_enter Tryd.func33, Tryd.ntmps33
        go_wp2_with (first | (go_at_call 68; refine (HW.out _).mono ?_; rintro e w' ⟨rfl, rfl⟩) | (go_at_call 69; refine (HF.out _).mono ?_; rintro e w' ⟨rfl, rfl⟩) | (go_at_call 67; refine (bits_any _ _).mono ?_; rintro e w' ⟨rfl, rfl⟩))
        go_quiet ((go_at_call 67; exact quiet_of_left (bits_any _ _)))
        go_wp2
        go_ret
        rw [HV.out]
        exact ⟨rfl, by repeat (first | exact Below.refl _ _ | exact (Below.refl _ _).alloc (Nat.le_refl _) _ | exact below_drewN ((Below.refl _ _).alloc (Nat.le_refl _) _) _)⟩
    · have hf' : ((bitsV f : Int) == 0) = false := by simp; omega
      have hv : validB .iRune n u f s = false := by simp [validB, zeros, hu, hf]
      have HV := Lib.hid hv
      clear hv hu hf
      go_enter Tryd.func33, Tryd.ntmps33
      go_wp2_with (first | (go_at_call 68; refine (HW.out _).mono ?_; rintro e w' ⟨rfl, rfl⟩) | (go_at_call 69; refine (HF.out _).mono ?_; rintro e w' ⟨rfl, rfl⟩) | (go_at_call 67; refine (bits_any _ _).mono ?_; rintro e w' ⟨rfl, rfl⟩))
      go_quiet ((go_at_call 67; exact quiet_of_left (bits_any _ _)))
      go_wp2
      go_ret
      rw [HV.out]
      exact ⟨rfl, by repeat (first | exact Below.refl _ _ | exact (Below.refl _ _).alloc (Nat.le_refl _) _ | exact below_drewN ((Below.refl _ _).alloc (Nat.le_refl _) _) _)⟩
  · have hu' : (u == 0) = false := by simp [hu]
    have hv : validB .iRune n u f s = false := by simp [validB, zeros, hu]
    have HV := Lib.hid hv
    clear hv hu
    go_enter Tryd.func33, Tryd.ntmps33
    go_wp2_with (first | (go_at_call 68; refine (HW.out _).mono ?_; rintro e w' ⟨rfl, rfl⟩) | (go_at_call 69; refine (HF.out _).mono ?_; rintro e w' ⟨rfl, rfl⟩) | (go_at_call 67; refine (bits_any _ _).mono ?_; rintro e w' ⟨rfl, rfl⟩))
    go_quiet ((go_at_call 67; exact quiet_of_left (bits_any _ _)))
    go_wp2
    go_ret
    rw [HV.out]
    exact ⟨rfl, by repeat (first | exact Below.refl _ _ | exact (Below.refl _ _).alloc (Nat.le_refl _) _ | exact below_drewN ((Below.refl _ _).alloc (Nat.le_refl _) _) _)⟩

set_option maxRecDepth 100000 in
set_option maxHeartbeats 1000000 in
theorem valid_iInt (k : ByteArray) (hk : Kd.of k.toList = .iInt) (n u : Int) (f : Nat) (s : ByteArray) (w : World) :
    Calls Tryd.prog 33 #[.agg #[.string k, .int .i64 n, .int .u64 u, .float .f64 f, .string s]] w fun e w' => e = .returned (.bool (validB .iInt n u f s)) ∧ Below w.heap.size w w' := by
  have hl := Kd.of_lit _ hk (by simp)
  simp only [Kd.lit] at hl
  have hw := fun w => width_any k w
  have hfl := fun w => isFloat_any k w
  rw [hk] at hw hfl
  simp only [Kd.width, Kd.sgn, Kd.flt] at hw hfl
  have HW := Lib.hid hw
  have HF := Lib.hid hfl
  clear hw hfl hk
  by_cases hu : u = 0
  · have hu' : (u == 0) = true := by simp [hu]
    by_cases hf : bitsV f = 0
    · have hf' : ((bitsV f : Int) == 0) = true := by simp [hf]
      by_cases hs : s.toList.isEmpty = true
      · have hs' : s.toList.isEmpty = true := hs
        have hv : validB .iInt n u f s = true := by simp [validB, zeros, hu, hf, hs]
        have HV := Lib.hid hv
        clear hv hu hf hs
        go_enter Tryd.func33, Tryd.ntmps33
        go_wp2_with (first | (go_at_call 68; refine (HW.out _).mono ?_; rintro e w' ⟨rfl, rfl⟩) | (go_at_call 69; refine (HF.out _).mono ?_; rintro e w' ⟨rfl, rfl⟩) | (go_at_call 67; refine (bits_any _ _).mono ?_; rintro e w' ⟨rfl, rfl⟩))
        go_quiet ((go_at_call 67; exact quiet_of_left (bits_any _ _)))
        go_wp2
        go_ret
        rw [HV.out]
        exact ⟨rfl, by repeat (first | exact Below.refl _ _ | exact (Below.refl _ _).alloc (Nat.le_refl _) _ | exact below_drewN ((Below.refl _ _).alloc (Nat.le_refl _) _) _)⟩
      · have hs' : s.toList.isEmpty = false := by simpa using hs
        have hv : validB .iInt n u f s = false := by simp [validB, zeros, hu, hf, hs]
        have HV := Lib.hid hv
        clear hv hu hf hs
        go_enter Tryd.func33, Tryd.ntmps33
        go_wp2_with (first | (go_at_call 68; refine (HW.out _).mono ?_; rintro e w' ⟨rfl, rfl⟩) | (go_at_call 69; refine (HF.out _).mono ?_; rintro e w' ⟨rfl, rfl⟩) | (go_at_call 67; refine (bits_any _ _).mono ?_; rintro e w' ⟨rfl, rfl⟩))
        go_quiet ((go_at_call 67; exact quiet_of_left (bits_any _ _)))
        go_wp2
        go_ret
        rw [HV.out]
        exact ⟨rfl, by repeat (first | exact Below.refl _ _ | exact (Below.refl _ _).alloc (Nat.le_refl _) _ | exact below_drewN ((Below.refl _ _).alloc (Nat.le_refl _) _) _)⟩
    · have hf' : ((bitsV f : Int) == 0) = false := by simp; omega
      have hv : validB .iInt n u f s = false := by simp [validB, zeros, hu, hf]
      have HV := Lib.hid hv
      clear hv hu hf
      go_enter Tryd.func33, Tryd.ntmps33
      go_wp2_with (first | (go_at_call 68; refine (HW.out _).mono ?_; rintro e w' ⟨rfl, rfl⟩) | (go_at_call 69; refine (HF.out _).mono ?_; rintro e w' ⟨rfl, rfl⟩) | (go_at_call 67; refine (bits_any _ _).mono ?_; rintro e w' ⟨rfl, rfl⟩))
      go_quiet ((go_at_call 67; exact quiet_of_left (bits_any _ _)))
      go_wp2
      go_ret
      rw [HV.out]
      exact ⟨rfl, by repeat (first | exact Below.refl _ _ | exact (Below.refl _ _).alloc (Nat.le_refl _) _ | exact below_drewN ((Below.refl _ _).alloc (Nat.le_refl _) _) _)⟩
  · have hu' : (u == 0) = false := by simp [hu]
    have hv : validB .iInt n u f s = false := by simp [validB, zeros, hu]
    have HV := Lib.hid hv
    clear hv hu
    go_enter Tryd.func33, Tryd.ntmps33
    go_wp2_with (first | (go_at_call 68; refine (HW.out _).mono ?_; rintro e w' ⟨rfl, rfl⟩) | (go_at_call 69; refine (HF.out _).mono ?_; rintro e w' ⟨rfl, rfl⟩) | (go_at_call 67; refine (bits_any _ _).mono ?_; rintro e w' ⟨rfl, rfl⟩))
    go_quiet ((go_at_call 67; exact quiet_of_left (bits_any _ _)))
    go_wp2
    go_ret
    rw [HV.out]
    exact ⟨rfl, by repeat (first | exact Below.refl _ _ | exact (Below.refl _ _).alloc (Nat.le_refl _) _ | exact below_drewN ((Below.refl _ _).alloc (Nat.le_refl _) _) _)⟩

end Go.Proofs.YtffgkocokkhahaaDoor
