/-
  The walk of laws.valid, kind by kind (2). PRINTED BY wip/tpl/gen_valid.py.
-/
import Derived.Test.YtffgkocokkhahaaDoorTp01

/- The walk of laws.valid, kind by kind (2). PRINTED BY wip/tpl/gen_valid.py. -/
namespace Go.Proofs.YtffgkocokkhahaaDoor
open Go.RowKit

set_option maxRecDepth 100000 in
set_option maxHeartbeats 1000000 in
theorem valid_u8 (k : ByteArray) (hk : Kd.of k.toList = (.int .u8)) (n u : Int) (f : Nat) (s : ByteArray) (w : World) :
    Calls Tryd.prog 33 #[.agg #[.string k, .int .i64 n, .int .u64 u, .float .f64 f, .string s]] w fun e w' => e = .returned (.bool (validB (.int .u8) n u f s)) ∧ Below w.heap.size w w' := by
  have hl := Kd.of_lit _ hk (by simp)
  simp only [Kd.lit] at hl
  have hw := fun w => width_any k w
  have hfl := fun w => isFloat_any k w
  rw [hk] at hw hfl
  simp only [Kd.width, Kd.sgn, Kd.flt] at hw hfl
  have HW := Lib.hid hw
  have HF := Lib.hid hfl
  clear hw hfl hk
  by_cases hn : n = 0
  · have hn' : (n == 0) = true := by simp [hn]
    by_cases hf : bitsV f = 0
    · have hf' : ((bitsV f : Int) == 0) = true := by simp [hf]
      by_cases hs : s.toList.isEmpty = true
      · have hs' : s.toList.isEmpty = true := hs
        have hv : validB (.int .u8) n u f s = (u / 256 == 0) := by simp [validB, zeros, hn, hf, hs]
        have HV := Lib.hid hv
        clear hv hn hf hs
        go_enter Tryd.func33, Tryd.ntmps33
        go_wp2_with (first | (go_at_call 68; refine (HW.out _).mono ?_; rintro e w' ⟨rfl, rfl⟩) | (go_at_call 69; refine (HF.out _).mono ?_; rintro e w' ⟨rfl, rfl⟩) | (go_at_call 67; refine (bits_any _ _).mono ?_; rintro e w' ⟨rfl, rfl⟩))
        go_ret
        rw [HV.out]
        exact ⟨rfl, by repeat (first | exact Below.refl _ _ | exact (Below.refl _ _).alloc (Nat.le_refl _) _ | exact below_drewN ((Below.refl _ _).alloc (Nat.le_refl _) _) _)⟩
      · have hs' : s.toList.isEmpty = false := by simpa using hs
        have hv : validB (.int .u8) n u f s = false := by simp [validB, zeros, hn, hf, hs]
        have HV := Lib.hid hv
        clear hv hn hf hs
        go_enter Tryd.func33, Tryd.ntmps33
        go_wp2_with (first | (go_at_call 68; refine (HW.out _).mono ?_; rintro e w' ⟨rfl, rfl⟩) | (go_at_call 69; refine (HF.out _).mono ?_; rintro e w' ⟨rfl, rfl⟩) | (go_at_call 67; refine (bits_any _ _).mono ?_; rintro e w' ⟨rfl, rfl⟩))
        go_ret
        rw [HV.out]
        exact ⟨rfl, by repeat (first | exact Below.refl _ _ | exact (Below.refl _ _).alloc (Nat.le_refl _) _ | exact below_drewN ((Below.refl _ _).alloc (Nat.le_refl _) _) _)⟩
    · have hf' : ((bitsV f : Int) == 0) = false := by simp; omega
      have hv : validB (.int .u8) n u f s = false := by simp [validB, zeros, hn, hf]
      have HV := Lib.hid hv
      clear hv hn hf
      go_enter Tryd.func33, Tryd.ntmps33
      go_wp2_with (first | (go_at_call 68; refine (HW.out _).mono ?_; rintro e w' ⟨rfl, rfl⟩) | (go_at_call 69; refine (HF.out _).mono ?_; rintro e w' ⟨rfl, rfl⟩) | (go_at_call 67; refine (bits_any _ _).mono ?_; rintro e w' ⟨rfl, rfl⟩))
      go_ret
      rw [HV.out]
      exact ⟨rfl, by repeat (first | exact Below.refl _ _ | exact (Below.refl _ _).alloc (Nat.le_refl _) _ | exact below_drewN ((Below.refl _ _).alloc (Nat.le_refl _) _) _)⟩
  · have hn' : (n == 0) = false := by simp [hn]
    have hv : validB (.int .u8) n u f s = false := by simp [validB, zeros, hn]
    have HV := Lib.hid hv
    clear hv hn
    go_enter Tryd.func33, Tryd.ntmps33
    go_wp2_with (first | (go_at_call 68; refine (HW.out _).mono ?_; rintro e w' ⟨rfl, rfl⟩) | (go_at_call 69; refine (HF.out _).mono ?_; rintro e w' ⟨rfl, rfl⟩) | (go_at_call 67; refine (bits_any _ _).mono ?_; rintro e w' ⟨rfl, rfl⟩))
    go_ret
    rw [HV.out]
    exact ⟨rfl, by repeat (first | exact Below.refl _ _ | exact (Below.refl _ _).alloc (Nat.le_refl _) _ | exact below_drewN ((Below.refl _ _).alloc (Nat.le_refl _) _) _)⟩

set_option maxRecDepth 100000 in
set_option maxHeartbeats 1000000 in
theorem valid_u16 (k : ByteArray) (hk : Kd.of k.toList = (.int .u16)) (n u : Int) (f : Nat) (s : ByteArray) (w : World) :
    Calls Tryd.prog 33 #[.agg #[.string k, .int .i64 n, .int .u64 u, .float .f64 f, .string s]] w fun e w' => e = .returned (.bool (validB (.int .u16) n u f s)) ∧ Below w.heap.size w w' := by
  have hl := Kd.of_lit _ hk (by simp)
  simp only [Kd.lit] at hl
  have hw := fun w => width_any k w
  have hfl := fun w => isFloat_any k w
  rw [hk] at hw hfl
  simp only [Kd.width, Kd.sgn, Kd.flt] at hw hfl
  have HW := Lib.hid hw
  have HF := Lib.hid hfl
  clear hw hfl hk
  by_cases hn : n = 0
  · have hn' : (n == 0) = true := by simp [hn]
    by_cases hf : bitsV f = 0
    · have hf' : ((bitsV f : Int) == 0) = true := by simp [hf]
      by_cases hs : s.toList.isEmpty = true
      · have hs' : s.toList.isEmpty = true := hs
        have hv : validB (.int .u16) n u f s = (u / 65536 == 0) := by simp [validB, zeros, hn, hf, hs]
        have HV := Lib.hid hv
        clear hv hn hf hs
        go_enter Tryd.func33, Tryd.ntmps33
        go_wp2_with (first | (go_at_call 68; refine (HW.out _).mono ?_; rintro e w' ⟨rfl, rfl⟩) | (go_at_call 69; refine (HF.out _).mono ?_; rintro e w' ⟨rfl, rfl⟩) | (go_at_call 67; refine (bits_any _ _).mono ?_; rintro e w' ⟨rfl, rfl⟩))
        go_ret
        rw [HV.out]
        exact ⟨rfl, by repeat (first | exact Below.refl _ _ | exact (Below.refl _ _).alloc (Nat.le_refl _) _ | exact below_drewN ((Below.refl _ _).alloc (Nat.le_refl _) _) _)⟩
      · have hs' : s.toList.isEmpty = false := by simpa using hs
        have hv : validB (.int .u16) n u f s = false := by simp [validB, zeros, hn, hf, hs]
        have HV := Lib.hid hv
        clear hv hn hf hs
        go_enter Tryd.func33, Tryd.ntmps33
        go_wp2_with (first | (go_at_call 68; refine (HW.out _).mono ?_; rintro e w' ⟨rfl, rfl⟩) | (go_at_call 69; refine (HF.out _).mono ?_; rintro e w' ⟨rfl, rfl⟩) | (go_at_call 67; refine (bits_any _ _).mono ?_; rintro e w' ⟨rfl, rfl⟩))
        go_ret
        rw [HV.out]
        exact ⟨rfl, by repeat (first | exact Below.refl _ _ | exact (Below.refl _ _).alloc (Nat.le_refl _) _ | exact below_drewN ((Below.refl _ _).alloc (Nat.le_refl _) _) _)⟩
    · have hf' : ((bitsV f : Int) == 0) = false := by simp; omega
      have hv : validB (.int .u16) n u f s = false := by simp [validB, zeros, hn, hf]
      have HV := Lib.hid hv
      clear hv hn hf
      go_enter Tryd.func33, Tryd.ntmps33
      go_wp2_with (first | (go_at_call 68; refine (HW.out _).mono ?_; rintro e w' ⟨rfl, rfl⟩) | (go_at_call 69; refine (HF.out _).mono ?_; rintro e w' ⟨rfl, rfl⟩) | (go_at_call 67; refine (bits_any _ _).mono ?_; rintro e w' ⟨rfl, rfl⟩))
      go_ret
      rw [HV.out]
      exact ⟨rfl, by repeat (first | exact Below.refl _ _ | exact (Below.refl _ _).alloc (Nat.le_refl _) _ | exact below_drewN ((Below.refl _ _).alloc (Nat.le_refl _) _) _)⟩
  · have hn' : (n == 0) = false := by simp [hn]
    have hv : validB (.int .u16) n u f s = false := by simp [validB, zeros, hn]
    have HV := Lib.hid hv
    clear hv hn
    go_enter Tryd.func33, Tryd.ntmps33
    go_wp2_with (first | (go_at_call 68; refine (HW.out _).mono ?_; rintro e w' ⟨rfl, rfl⟩) | (go_at_call 69; refine (HF.out _).mono ?_; rintro e w' ⟨rfl, rfl⟩) | (go_at_call 67; refine (bits_any _ _).mono ?_; rintro e w' ⟨rfl, rfl⟩))
    go_ret
    rw [HV.out]
    exact ⟨rfl, by repeat (first | exact Below.refl _ _ | exact (Below.refl _ _).alloc (Nat.le_refl _) _ | exact below_drewN ((Below.refl _ _).alloc (Nat.le_refl _) _) _)⟩

set_option maxRecDepth 100000 in
set_option maxHeartbeats 1000000 in
theorem valid_u32 (k : ByteArray) (hk : Kd.of k.toList = (.int .u32)) (n u : Int) (f : Nat) (s : ByteArray) (w : World) :
    Calls Tryd.prog 33 #[.agg #[.string k, .int .i64 n, .int .u64 u, .float .f64 f, .string s]] w fun e w' => e = .returned (.bool (validB (.int .u32) n u f s)) ∧ Below w.heap.size w w' := by
  have hl := Kd.of_lit _ hk (by simp)
  simp only [Kd.lit] at hl
  have hw := fun w => width_any k w
  have hfl := fun w => isFloat_any k w
  rw [hk] at hw hfl
  simp only [Kd.width, Kd.sgn, Kd.flt] at hw hfl
  have HW := Lib.hid hw
  have HF := Lib.hid hfl
  clear hw hfl hk
  by_cases hn : n = 0
  · have hn' : (n == 0) = true := by simp [hn]
    by_cases hf : bitsV f = 0
    · have hf' : ((bitsV f : Int) == 0) = true := by simp [hf]
      by_cases hs : s.toList.isEmpty = true
      · have hs' : s.toList.isEmpty = true := hs
        have hv : validB (.int .u32) n u f s = (u / 4294967296 == 0) := by simp [validB, zeros, hn, hf, hs]
        have HV := Lib.hid hv
        clear hv hn hf hs
        go_enter Tryd.func33, Tryd.ntmps33
        go_wp2_with (first | (go_at_call 68; refine (HW.out _).mono ?_; rintro e w' ⟨rfl, rfl⟩) | (go_at_call 69; refine (HF.out _).mono ?_; rintro e w' ⟨rfl, rfl⟩) | (go_at_call 67; refine (bits_any _ _).mono ?_; rintro e w' ⟨rfl, rfl⟩))
        go_ret
        rw [HV.out]
        exact ⟨rfl, by repeat (first | exact Below.refl _ _ | exact (Below.refl _ _).alloc (Nat.le_refl _) _ | exact below_drewN ((Below.refl _ _).alloc (Nat.le_refl _) _) _)⟩
      · have hs' : s.toList.isEmpty = false := by simpa using hs
        have hv : validB (.int .u32) n u f s = false := by simp [validB, zeros, hn, hf, hs]
        have HV := Lib.hid hv
        clear hv hn hf hs
        go_enter Tryd.func33, Tryd.ntmps33
        go_wp2_with (first | (go_at_call 68; refine (HW.out _).mono ?_; rintro e w' ⟨rfl, rfl⟩) | (go_at_call 69; refine (HF.out _).mono ?_; rintro e w' ⟨rfl, rfl⟩) | (go_at_call 67; refine (bits_any _ _).mono ?_; rintro e w' ⟨rfl, rfl⟩))
        go_ret
        rw [HV.out]
        exact ⟨rfl, by repeat (first | exact Below.refl _ _ | exact (Below.refl _ _).alloc (Nat.le_refl _) _ | exact below_drewN ((Below.refl _ _).alloc (Nat.le_refl _) _) _)⟩
    · have hf' : ((bitsV f : Int) == 0) = false := by simp; omega
      have hv : validB (.int .u32) n u f s = false := by simp [validB, zeros, hn, hf]
      have HV := Lib.hid hv
      clear hv hn hf
      go_enter Tryd.func33, Tryd.ntmps33
      go_wp2_with (first | (go_at_call 68; refine (HW.out _).mono ?_; rintro e w' ⟨rfl, rfl⟩) | (go_at_call 69; refine (HF.out _).mono ?_; rintro e w' ⟨rfl, rfl⟩) | (go_at_call 67; refine (bits_any _ _).mono ?_; rintro e w' ⟨rfl, rfl⟩))
      go_ret
      rw [HV.out]
      exact ⟨rfl, by repeat (first | exact Below.refl _ _ | exact (Below.refl _ _).alloc (Nat.le_refl _) _ | exact below_drewN ((Below.refl _ _).alloc (Nat.le_refl _) _) _)⟩
  · have hn' : (n == 0) = false := by simp [hn]
    have hv : validB (.int .u32) n u f s = false := by simp [validB, zeros, hn]
    have HV := Lib.hid hv
    clear hv hn
    go_enter Tryd.func33, Tryd.ntmps33
    go_wp2_with (first | (go_at_call 68; refine (HW.out _).mono ?_; rintro e w' ⟨rfl, rfl⟩) | (go_at_call 69; refine (HF.out _).mono ?_; rintro e w' ⟨rfl, rfl⟩) | (go_at_call 67; refine (bits_any _ _).mono ?_; rintro e w' ⟨rfl, rfl⟩))
    go_ret
    rw [HV.out]
    exact ⟨rfl, by repeat (first | exact Below.refl _ _ | exact (Below.refl _ _).alloc (Nat.le_refl _) _ | exact below_drewN ((Below.refl _ _).alloc (Nat.le_refl _) _) _)⟩

set_option maxRecDepth 100000 in
set_option maxHeartbeats 1000000 in
theorem valid_u64 (k : ByteArray) (hk : Kd.of k.toList = (.int .u64)) (n u : Int) (f : Nat) (s : ByteArray) (w : World) :
    Calls Tryd.prog 33 #[.agg #[.string k, .int .i64 n, .int .u64 u, .float .f64 f, .string s]] w fun e w' => e = .returned (.bool (validB (.int .u64) n u f s)) ∧ Below w.heap.size w w' := by
  have hl := Kd.of_lit _ hk (by simp)
  simp only [Kd.lit] at hl
  have hw := fun w => width_any k w
  have hfl := fun w => isFloat_any k w
  rw [hk] at hw hfl
  simp only [Kd.width, Kd.sgn, Kd.flt] at hw hfl
  have HW := Lib.hid hw
  have HF := Lib.hid hfl
  clear hw hfl hk
  by_cases hn : n = 0
  · have hn' : (n == 0) = true := by simp [hn]
    by_cases hf : bitsV f = 0
    · have hf' : ((bitsV f : Int) == 0) = true := by simp [hf]
      by_cases hs : s.toList.isEmpty = true
      · have hs' : s.toList.isEmpty = true := hs
        have hv : validB (.int .u64) n u f s = true := by simp [validB, zeros, hn, hf, hs]
        have HV := Lib.hid hv
        clear hv hn hf hs
        go_enter Tryd.func33, Tryd.ntmps33
        go_wp2_with (first | (go_at_call 68; refine (HW.out _).mono ?_; rintro e w' ⟨rfl, rfl⟩) | (go_at_call 69; refine (HF.out _).mono ?_; rintro e w' ⟨rfl, rfl⟩) | (go_at_call 67; refine (bits_any _ _).mono ?_; rintro e w' ⟨rfl, rfl⟩))
        go_ret
        rw [HV.out]
        exact ⟨rfl, by repeat (first | exact Below.refl _ _ | exact (Below.refl _ _).alloc (Nat.le_refl _) _ | exact below_drewN ((Below.refl _ _).alloc (Nat.le_refl _) _) _)⟩
      · have hs' : s.toList.isEmpty = false := by simpa using hs
        have hv : validB (.int .u64) n u f s = false := by simp [validB, zeros, hn, hf, hs]
        have HV := Lib.hid hv
        clear hv hn hf hs
        go_enter Tryd.func33, Tryd.ntmps33
        go_wp2_with (first | (go_at_call 68; refine (HW.out _).mono ?_; rintro e w' ⟨rfl, rfl⟩) | (go_at_call 69; refine (HF.out _).mono ?_; rintro e w' ⟨rfl, rfl⟩) | (go_at_call 67; refine (bits_any _ _).mono ?_; rintro e w' ⟨rfl, rfl⟩))
        go_ret
        rw [HV.out]
        exact ⟨rfl, by repeat (first | exact Below.refl _ _ | exact (Below.refl _ _).alloc (Nat.le_refl _) _ | exact below_drewN ((Below.refl _ _).alloc (Nat.le_refl _) _) _)⟩
    · have hf' : ((bitsV f : Int) == 0) = false := by simp; omega
      have hv : validB (.int .u64) n u f s = false := by simp [validB, zeros, hn, hf]
      have HV := Lib.hid hv
      clear hv hn hf
      go_enter Tryd.func33, Tryd.ntmps33
      go_wp2_with (first | (go_at_call 68; refine (HW.out _).mono ?_; rintro e w' ⟨rfl, rfl⟩) | (go_at_call 69; refine (HF.out _).mono ?_; rintro e w' ⟨rfl, rfl⟩) | (go_at_call 67; refine (bits_any _ _).mono ?_; rintro e w' ⟨rfl, rfl⟩))
      go_ret
      rw [HV.out]
      exact ⟨rfl, by repeat (first | exact Below.refl _ _ | exact (Below.refl _ _).alloc (Nat.le_refl _) _ | exact below_drewN ((Below.refl _ _).alloc (Nat.le_refl _) _) _)⟩
  · have hn' : (n == 0) = false := by simp [hn]
    have hv : validB (.int .u64) n u f s = false := by simp [validB, zeros, hn]
    have HV := Lib.hid hv
    clear hv hn
    go_enter Tryd.func33, Tryd.ntmps33
    go_wp2_with (first | (go_at_call 68; refine (HW.out _).mono ?_; rintro e w' ⟨rfl, rfl⟩) | (go_at_call 69; refine (HF.out _).mono ?_; rintro e w' ⟨rfl, rfl⟩) | (go_at_call 67; refine (bits_any _ _).mono ?_; rintro e w' ⟨rfl, rfl⟩))
    go_ret
    rw [HV.out]
    exact ⟨rfl, by repeat (first | exact Below.refl _ _ | exact (Below.refl _ _).alloc (Nat.le_refl _) _ | exact below_drewN ((Below.refl _ _).alloc (Nat.le_refl _) _) _)⟩

set_option maxRecDepth 100000 in
set_option maxHeartbeats 1000000 in
theorem valid_iUint (k : ByteArray) (hk : Kd.of k.toList = .iUint) (n u : Int) (f : Nat) (s : ByteArray) (w : World) :
    Calls Tryd.prog 33 #[.agg #[.string k, .int .i64 n, .int .u64 u, .float .f64 f, .string s]] w fun e w' => e = .returned (.bool (validB .iUint n u f s)) ∧ Below w.heap.size w w' := by
  have hl := Kd.of_lit _ hk (by simp)
  simp only [Kd.lit] at hl
  have hw := fun w => width_any k w
  have hfl := fun w => isFloat_any k w
  rw [hk] at hw hfl
  simp only [Kd.width, Kd.sgn, Kd.flt] at hw hfl
  have HW := Lib.hid hw
  have HF := Lib.hid hfl
  clear hw hfl hk
  by_cases hn : n = 0
  · have hn' : (n == 0) = true := by simp [hn]
    by_cases hf : bitsV f = 0
    · have hf' : ((bitsV f : Int) == 0) = true := by simp [hf]
      by_cases hs : s.toList.isEmpty = true
      · have hs' : s.toList.isEmpty = true := hs
        have hv : validB .iUint n u f s = true := by simp [validB, zeros, hn, hf, hs]
        have HV := Lib.hid hv
        clear hv hn hf hs
        go_enter Tryd.func33, Tryd.ntmps33
        go_wp2_with (first | (go_at_call 68; refine (HW.out _).mono ?_; rintro e w' ⟨rfl, rfl⟩) | (go_at_call 69; refine (HF.out _).mono ?_; rintro e w' ⟨rfl, rfl⟩) | (go_at_call 67; refine (bits_any _ _).mono ?_; rintro e w' ⟨rfl, rfl⟩))
        go_ret
        rw [HV.out]
        exact ⟨rfl, by repeat (first | exact Below.refl _ _ | exact (Below.refl _ _).alloc (Nat.le_refl _) _ | exact below_drewN ((Below.refl _ _).alloc (Nat.le_refl _) _) _)⟩
      · have hs' : s.toList.isEmpty = false := by simpa using hs
        have hv : validB .iUint n u f s = false := by simp [validB, zeros, hn, hf, hs]
        have HV := Lib.hid hv
        clear hv hn hf hs
        go_enter Tryd.func33, Tryd.ntmps33
        go_wp2_with (first | (go_at_call 68; refine (HW.out _).mono ?_; rintro e w' ⟨rfl, rfl⟩) | (go_at_call 69; refine (HF.out _).mono ?_; rintro e w' ⟨rfl, rfl⟩) | (go_at_call 67; refine (bits_any _ _).mono ?_; rintro e w' ⟨rfl, rfl⟩))
        go_ret
        rw [HV.out]
        exact ⟨rfl, by repeat (first | exact Below.refl _ _ | exact (Below.refl _ _).alloc (Nat.le_refl _) _ | exact below_drewN ((Below.refl _ _).alloc (Nat.le_refl _) _) _)⟩
    · have hf' : ((bitsV f : Int) == 0) = false := by simp; omega
      have hv : validB .iUint n u f s = false := by simp [validB, zeros, hn, hf]
      have HV := Lib.hid hv
      clear hv hn hf
      go_enter Tryd.func33, Tryd.ntmps33
      go_wp2_with (first | (go_at_call 68; refine (HW.out _).mono ?_; rintro e w' ⟨rfl, rfl⟩) | (go_at_call 69; refine (HF.out _).mono ?_; rintro e w' ⟨rfl, rfl⟩) | (go_at_call 67; refine (bits_any _ _).mono ?_; rintro e w' ⟨rfl, rfl⟩))
      go_ret
      rw [HV.out]
      exact ⟨rfl, by repeat (first | exact Below.refl _ _ | exact (Below.refl _ _).alloc (Nat.le_refl _) _ | exact below_drewN ((Below.refl _ _).alloc (Nat.le_refl _) _) _)⟩
  · have hn' : (n == 0) = false := by simp [hn]
    have hv : validB .iUint n u f s = false := by simp [validB, zeros, hn]
    have HV := Lib.hid hv
    clear hv hn
    go_enter Tryd.func33, Tryd.ntmps33
    go_wp2_with (first | (go_at_call 68; refine (HW.out _).mono ?_; rintro e w' ⟨rfl, rfl⟩) | (go_at_call 69; refine (HF.out _).mono ?_; rintro e w' ⟨rfl, rfl⟩) | (go_at_call 67; refine (bits_any _ _).mono ?_; rintro e w' ⟨rfl, rfl⟩))
    go_ret
    rw [HV.out]
    exact ⟨rfl, by repeat (first | exact Below.refl _ _ | exact (Below.refl _ _).alloc (Nat.le_refl _) _ | exact below_drewN ((Below.refl _ _).alloc (Nat.le_refl _) _) _)⟩

set_option maxRecDepth 100000 in
set_option maxHeartbeats 1000000 in
theorem valid_f64 (k : ByteArray) (hk : Kd.of k.toList = .f64) (n u : Int) (f : Nat) (s : ByteArray) (w : World) :
    Calls Tryd.prog 33 #[.agg #[.string k, .int .i64 n, .int .u64 u, .float .f64 f, .string s]] w fun e w' => e = .returned (.bool (validB .f64 n u f s)) ∧ Below w.heap.size w w' := by
  have hl := Kd.of_lit _ hk (by simp)
  simp only [Kd.lit] at hl
  have hw := fun w => width_any k w
  have hfl := fun w => isFloat_any k w
  rw [hk] at hw hfl
  simp only [Kd.width, Kd.sgn, Kd.flt] at hw hfl
  have HW := Lib.hid hw
  have HF := Lib.hid hfl
  clear hw hfl hk
  by_cases hn : n = 0
  · have hn' : (n == 0) = true := by simp [hn]
    by_cases hu : u = 0
    · have hu' : (u == 0) = true := by simp [hu]
      by_cases hs : s.toList.isEmpty = true
      · have hs' : s.toList.isEmpty = true := hs
        have hv : validB .f64 n u f s = true := by simp [validB, hn, hu, hs]
        have HV := Lib.hid hv
        clear hv hn hu hs
        go_enter Tryd.func33, Tryd.ntmps33
        go_wp2_with (first | (go_at_call 68; refine (HW.out _).mono ?_; rintro e w' ⟨rfl, rfl⟩) | (go_at_call 69; refine (HF.out _).mono ?_; rintro e w' ⟨rfl, rfl⟩) | (go_at_call 67; refine (bits_any _ _).mono ?_; rintro e w' ⟨rfl, rfl⟩))
        go_quiet ((go_at_call 67; exact quiet_of_left (bits_any _ _)))
        go_wp2
        go_ret
        rw [HV.out]
        exact ⟨rfl, by repeat (first | exact Below.refl _ _ | exact (Below.refl _ _).alloc (Nat.le_refl _) _ | exact below_drewN ((Below.refl _ _).alloc (Nat.le_refl _) _) _)⟩
      · have hs' : s.toList.isEmpty = false := by simpa using hs
        have hv : validB .f64 n u f s = false := by simp [validB, hn, hu, hs]
        have HV := Lib.hid hv
        clear hv hn hu hs
        go_enter Tryd.func33, Tryd.ntmps33
        go_wp2_with (first | (go_at_call 68; refine (HW.out _).mono ?_; rintro e w' ⟨rfl, rfl⟩) | (go_at_call 69; refine (HF.out _).mono ?_; rintro e w' ⟨rfl, rfl⟩) | (go_at_call 67; refine (bits_any _ _).mono ?_; rintro e w' ⟨rfl, rfl⟩))
        go_quiet ((go_at_call 67; exact quiet_of_left (bits_any _ _)))
        go_wp2
        go_ret
        rw [HV.out]
        exact ⟨rfl, by repeat (first | exact Below.refl _ _ | exact (Below.refl _ _).alloc (Nat.le_refl _) _ | exact below_drewN ((Below.refl _ _).alloc (Nat.le_refl _) _) _)⟩
    · have hu' : (u == 0) = false := by simp [hu]
      have hv : validB .f64 n u f s = false := by simp [validB, hn, hu]
      have HV := Lib.hid hv
      clear hv hn hu
      go_enter Tryd.func33, Tryd.ntmps33
      go_wp2_with (first | (go_at_call 68; refine (HW.out _).mono ?_; rintro e w' ⟨rfl, rfl⟩) | (go_at_call 69; refine (HF.out _).mono ?_; rintro e w' ⟨rfl, rfl⟩) | (go_at_call 67; refine (bits_any _ _).mono ?_; rintro e w' ⟨rfl, rfl⟩))
      go_quiet ((go_at_call 67; exact quiet_of_left (bits_any _ _)))
      go_wp2
      go_ret
      rw [HV.out]
      exact ⟨rfl, by repeat (first | exact Below.refl _ _ | exact (Below.refl _ _).alloc (Nat.le_refl _) _ | exact below_drewN ((Below.refl _ _).alloc (Nat.le_refl _) _) _)⟩
  · have hn' : (n == 0) = false := by simp [hn]
    have hv : validB .f64 n u f s = false := by simp [validB, hn]
    have HV := Lib.hid hv
    clear hv hn
    go_enter Tryd.func33, Tryd.ntmps33
    go_wp2_with (first | (go_at_call 68; refine (HW.out _).mono ?_; rintro e w' ⟨rfl, rfl⟩) | (go_at_call 69; refine (HF.out _).mono ?_; rintro e w' ⟨rfl, rfl⟩) | (go_at_call 67; refine (bits_any _ _).mono ?_; rintro e w' ⟨rfl, rfl⟩))
    go_quiet ((go_at_call 67; exact quiet_of_left (bits_any _ _)))
    go_wp2
    go_ret
    rw [HV.out]
    exact ⟨rfl, by repeat (first | exact Below.refl _ _ | exact (Below.refl _ _).alloc (Nat.le_refl _) _ | exact below_drewN ((Below.refl _ _).alloc (Nat.le_refl _) _) _)⟩

set_option maxRecDepth 100000 in
set_option maxHeartbeats 1000000 in
theorem valid_iFloat (k : ByteArray) (hk : Kd.of k.toList = .iFloat) (n u : Int) (f : Nat) (s : ByteArray) (w : World) :
    Calls Tryd.prog 33 #[.agg #[.string k, .int .i64 n, .int .u64 u, .float .f64 f, .string s]] w fun e w' => e = .returned (.bool (validB .iFloat n u f s)) ∧ Below w.heap.size w w' := by
  have hl := Kd.of_lit _ hk (by simp)
  simp only [Kd.lit] at hl
  have hw := fun w => width_any k w
  have hfl := fun w => isFloat_any k w
  rw [hk] at hw hfl
  simp only [Kd.width, Kd.sgn, Kd.flt] at hw hfl
  have HW := Lib.hid hw
  have HF := Lib.hid hfl
  clear hw hfl hk
  by_cases hn : n = 0
  · have hn' : (n == 0) = true := by simp [hn]
    by_cases hu : u = 0
    · have hu' : (u == 0) = true := by simp [hu]
      by_cases hs : s.toList.isEmpty = true
      · have hs' : s.toList.isEmpty = true := hs
        have hv : validB .iFloat n u f s = true := by simp [validB, hn, hu, hs]
        have HV := Lib.hid hv
        clear hv hn hu hs
        go_enter Tryd.func33, Tryd.ntmps33
        go_wp2_with (first | (go_at_call 68; refine (HW.out _).mono ?_; rintro e w' ⟨rfl, rfl⟩) | (go_at_call 69; refine (HF.out _).mono ?_; rintro e w' ⟨rfl, rfl⟩) | (go_at_call 67; refine (bits_any _ _).mono ?_; rintro e w' ⟨rfl, rfl⟩))
        go_quiet ((go_at_call 67; exact quiet_of_left (bits_any _ _)))
        go_wp2
        go_ret
        rw [HV.out]
        exact ⟨rfl, by repeat (first | exact Below.refl _ _ | exact (Below.refl _ _).alloc (Nat.le_refl _) _ | exact below_drewN ((Below.refl _ _).alloc (Nat.le_refl _) _) _)⟩
      · have hs' : s.toList.isEmpty = false := by simpa using hs
        have hv : validB .iFloat n u f s = false := by simp [validB, hn, hu, hs]
        have HV := Lib.hid hv
        clear hv hn hu hs
        go_enter Tryd.func33, Tryd.ntmps33
        go_wp2_with (first | (go_at_call 68; refine (HW.out _).mono ?_; rintro e w' ⟨rfl, rfl⟩) | (go_at_call 69; refine (HF.out _).mono ?_; rintro e w' ⟨rfl, rfl⟩) | (go_at_call 67; refine (bits_any _ _).mono ?_; rintro e w' ⟨rfl, rfl⟩))
        go_quiet ((go_at_call 67; exact quiet_of_left (bits_any _ _)))
        go_wp2
        go_ret
        rw [HV.out]
        exact ⟨rfl, by repeat (first | exact Below.refl _ _ | exact (Below.refl _ _).alloc (Nat.le_refl _) _ | exact below_drewN ((Below.refl _ _).alloc (Nat.le_refl _) _) _)⟩
    · have hu' : (u == 0) = false := by simp [hu]
      have hv : validB .iFloat n u f s = false := by simp [validB, hn, hu]
      have HV := Lib.hid hv
      clear hv hn hu
      go_enter Tryd.func33, Tryd.ntmps33
      go_wp2_with (first | (go_at_call 68; refine (HW.out _).mono ?_; rintro e w' ⟨rfl, rfl⟩) | (go_at_call 69; refine (HF.out _).mono ?_; rintro e w' ⟨rfl, rfl⟩) | (go_at_call 67; refine (bits_any _ _).mono ?_; rintro e w' ⟨rfl, rfl⟩))
      go_quiet ((go_at_call 67; exact quiet_of_left (bits_any _ _)))
      go_wp2
      go_ret
      rw [HV.out]
      exact ⟨rfl, by repeat (first | exact Below.refl _ _ | exact (Below.refl _ _).alloc (Nat.le_refl _) _ | exact below_drewN ((Below.refl _ _).alloc (Nat.le_refl _) _) _)⟩
  · have hn' : (n == 0) = false := by simp [hn]
    have hv : validB .iFloat n u f s = false := by simp [validB, hn]
    have HV := Lib.hid hv
    clear hv hn
    go_enter Tryd.func33, Tryd.ntmps33
    go_wp2_with (first | (go_at_call 68; refine (HW.out _).mono ?_; rintro e w' ⟨rfl, rfl⟩) | (go_at_call 69; refine (HF.out _).mono ?_; rintro e w' ⟨rfl, rfl⟩) | (go_at_call 67; refine (bits_any _ _).mono ?_; rintro e w' ⟨rfl, rfl⟩))
    go_quiet ((go_at_call 67; exact quiet_of_left (bits_any _ _)))
    go_wp2
    go_ret
    rw [HV.out]
    exact ⟨rfl, by repeat (first | exact Below.refl _ _ | exact (Below.refl _ _).alloc (Nat.le_refl _) _ | exact below_drewN ((Below.refl _ _).alloc (Nat.le_refl _) _) _)⟩

set_option maxRecDepth 100000 in
set_option maxHeartbeats 1000000 in
theorem valid_bool (k : ByteArray) (hk : Kd.of k.toList = .bool) (n u : Int) (f : Nat) (s : ByteArray) (w : World) :
    Calls Tryd.prog 33 #[.agg #[.string k, .int .i64 n, .int .u64 u, .float .f64 f, .string s]] w fun e w' => e = .returned (.bool (validB .bool n u f s)) ∧ Below w.heap.size w w' := by
  have hl := Kd.of_lit _ hk (by simp)
  simp only [Kd.lit] at hl
  have hw := fun w => width_any k w
  have hfl := fun w => isFloat_any k w
  rw [hk] at hw hfl
  simp only [Kd.width, Kd.sgn, Kd.flt] at hw hfl
  have HW := Lib.hid hw
  have HF := Lib.hid hfl
  clear hw hfl hk
  by_cases hu : u = 0
  · have hu' : (u == 0) = true := by simp [hu]
    by_cases hf : bitsV f = 0
    · have hf' : ((bitsV f : Int) == 0) = true := by simp [hf]
      by_cases hs : s.toList.isEmpty = true
      · have hs' : s.toList.isEmpty = true := hs
        by_cases hn : n = 0
        · have hn' : (n == 0) = true := by simp [hn]
          have hv : validB .bool n u f s = true := by simp [validB, zeros, hu, hf, hs, hn]
          have HV := Lib.hid hv
          clear hv hu hf hs hn
          go_enter Tryd.func33, Tryd.ntmps33
          go_wp2_with (first | (go_at_call 68; refine (HW.out _).mono ?_; rintro e w' ⟨rfl, rfl⟩) | (go_at_call 69; refine (HF.out _).mono ?_; rintro e w' ⟨rfl, rfl⟩) | (go_at_call 67; refine (bits_any _ _).mono ?_; rintro e w' ⟨rfl, rfl⟩))
          go_ret
          rw [HV.out]
          exact ⟨rfl, by repeat (first | exact Below.refl _ _ | exact (Below.refl _ _).alloc (Nat.le_refl _) _ | exact below_drewN ((Below.refl _ _).alloc (Nat.le_refl _) _) _)⟩
        · have hn' : (n == 0) = false := by simp [hn]
          have hv : validB .bool n u f s = (n == 1) := by simp [validB, zeros, hu, hf, hs, hn]
          have HV := Lib.hid hv
          clear hv hu hf hs hn
          go_enter Tryd.func33, Tryd.ntmps33
          go_wp2_with (first | (go_at_call 68; refine (HW.out _).mono ?_; rintro e w' ⟨rfl, rfl⟩) | (go_at_call 69; refine (HF.out _).mono ?_; rintro e w' ⟨rfl, rfl⟩) | (go_at_call 67; refine (bits_any _ _).mono ?_; rintro e w' ⟨rfl, rfl⟩))
          go_ret
          rw [HV.out]
          exact ⟨rfl, by repeat (first | exact Below.refl _ _ | exact (Below.refl _ _).alloc (Nat.le_refl _) _ | exact below_drewN ((Below.refl _ _).alloc (Nat.le_refl _) _) _)⟩
      · have hs' : s.toList.isEmpty = false := by simpa using hs
        have hv : validB .bool n u f s = false := by simp [validB, zeros, hu, hf, hs]
        have HV := Lib.hid hv
        clear hv hu hf hs
        go_enter Tryd.func33, Tryd.ntmps33
        go_wp2_with (first | (go_at_call 68; refine (HW.out _).mono ?_; rintro e w' ⟨rfl, rfl⟩) | (go_at_call 69; refine (HF.out _).mono ?_; rintro e w' ⟨rfl, rfl⟩) | (go_at_call 67; refine (bits_any _ _).mono ?_; rintro e w' ⟨rfl, rfl⟩))
        go_ret
        rw [HV.out]
        exact ⟨rfl, by repeat (first | exact Below.refl _ _ | exact (Below.refl _ _).alloc (Nat.le_refl _) _ | exact below_drewN ((Below.refl _ _).alloc (Nat.le_refl _) _) _)⟩
    · have hf' : ((bitsV f : Int) == 0) = false := by simp; omega
      have hv : validB .bool n u f s = false := by simp [validB, zeros, hu, hf]
      have HV := Lib.hid hv
      clear hv hu hf
      go_enter Tryd.func33, Tryd.ntmps33
      go_wp2_with (first | (go_at_call 68; refine (HW.out _).mono ?_; rintro e w' ⟨rfl, rfl⟩) | (go_at_call 69; refine (HF.out _).mono ?_; rintro e w' ⟨rfl, rfl⟩) | (go_at_call 67; refine (bits_any _ _).mono ?_; rintro e w' ⟨rfl, rfl⟩))
      go_ret
      rw [HV.out]
      exact ⟨rfl, by repeat (first | exact Below.refl _ _ | exact (Below.refl _ _).alloc (Nat.le_refl _) _ | exact below_drewN ((Below.refl _ _).alloc (Nat.le_refl _) _) _)⟩
  · have hu' : (u == 0) = false := by simp [hu]
    have hv : validB .bool n u f s = false := by simp [validB, zeros, hu]
    have HV := Lib.hid hv
    clear hv hu
    go_enter Tryd.func33, Tryd.ntmps33
    go_wp2_with (first | (go_at_call 68; refine (HW.out _).mono ?_; rintro e w' ⟨rfl, rfl⟩) | (go_at_call 69; refine (HF.out _).mono ?_; rintro e w' ⟨rfl, rfl⟩) | (go_at_call 67; refine (bits_any _ _).mono ?_; rintro e w' ⟨rfl, rfl⟩))
    go_ret
    rw [HV.out]
    exact ⟨rfl, by repeat (first | exact Below.refl _ _ | exact (Below.refl _ _).alloc (Nat.le_refl _) _ | exact below_drewN ((Below.refl _ _).alloc (Nat.le_refl _) _) _)⟩

set_option maxRecDepth 100000 in
set_option maxHeartbeats 1000000 in
theorem valid_str (k : ByteArray) (hk : Kd.of k.toList = .str) (n u : Int) (f : Nat) (s : ByteArray) (w : World) :
    Calls Tryd.prog 33 #[.agg #[.string k, .int .i64 n, .int .u64 u, .float .f64 f, .string s]] w fun e w' => e = .returned (.bool (validB .str n u f s)) ∧ Below w.heap.size w w' := by
  have hl := Kd.of_lit _ hk (by simp)
  simp only [Kd.lit] at hl
  have hw := fun w => width_any k w
  have hfl := fun w => isFloat_any k w
  rw [hk] at hw hfl
  simp only [Kd.width, Kd.sgn, Kd.flt] at hw hfl
  have HW := Lib.hid hw
  have HF := Lib.hid hfl
  clear hw hfl hk
  by_cases hn : n = 0
  · have hn' : (n == 0) = true := by simp [hn]
    by_cases hu : u = 0
    · have hu' : (u == 0) = true := by simp [hu]
      by_cases hf : bitsV f = 0
      · have hf' : ((bitsV f : Int) == 0) = true := by simp [hf]
        have hv : validB .str n u f s = decide ((s.size : Int) ≤ 65536) := by simp [validB, hn, hu, hf]
        have HV := Lib.hid hv
        clear hv hn hu hf
        go_enter Tryd.func33, Tryd.ntmps33
        go_wp2_with (first | (go_at_call 68; refine (HW.out _).mono ?_; rintro e w' ⟨rfl, rfl⟩) | (go_at_call 69; refine (HF.out _).mono ?_; rintro e w' ⟨rfl, rfl⟩) | (go_at_call 67; refine (bits_any _ _).mono ?_; rintro e w' ⟨rfl, rfl⟩))
        go_ret
        rw [HV.out]
        exact ⟨rfl, by repeat (first | exact Below.refl _ _ | exact (Below.refl _ _).alloc (Nat.le_refl _) _ | exact below_drewN ((Below.refl _ _).alloc (Nat.le_refl _) _) _)⟩
      · have hf' : ((bitsV f : Int) == 0) = false := by simp; omega
        have hv : validB .str n u f s = false := by simp [validB, hn, hu, hf]
        have HV := Lib.hid hv
        clear hv hn hu hf
        go_enter Tryd.func33, Tryd.ntmps33
        go_wp2_with (first | (go_at_call 68; refine (HW.out _).mono ?_; rintro e w' ⟨rfl, rfl⟩) | (go_at_call 69; refine (HF.out _).mono ?_; rintro e w' ⟨rfl, rfl⟩) | (go_at_call 67; refine (bits_any _ _).mono ?_; rintro e w' ⟨rfl, rfl⟩))
        go_ret
        rw [HV.out]
        exact ⟨rfl, by repeat (first | exact Below.refl _ _ | exact (Below.refl _ _).alloc (Nat.le_refl _) _ | exact below_drewN ((Below.refl _ _).alloc (Nat.le_refl _) _) _)⟩
    · have hu' : (u == 0) = false := by simp [hu]
      have hv : validB .str n u f s = false := by simp [validB, hn, hu]
      have HV := Lib.hid hv
      clear hv hn hu
      go_enter Tryd.func33, Tryd.ntmps33
      go_wp2_with (first | (go_at_call 68; refine (HW.out _).mono ?_; rintro e w' ⟨rfl, rfl⟩) | (go_at_call 69; refine (HF.out _).mono ?_; rintro e w' ⟨rfl, rfl⟩) | (go_at_call 67; refine (bits_any _ _).mono ?_; rintro e w' ⟨rfl, rfl⟩))
      go_ret
      rw [HV.out]
      exact ⟨rfl, by repeat (first | exact Below.refl _ _ | exact (Below.refl _ _).alloc (Nat.le_refl _) _ | exact below_drewN ((Below.refl _ _).alloc (Nat.le_refl _) _) _)⟩
  · have hn' : (n == 0) = false := by simp [hn]
    have hv : validB .str n u f s = false := by simp [validB, hn]
    have HV := Lib.hid hv
    clear hv hn
    go_enter Tryd.func33, Tryd.ntmps33
    go_wp2_with (first | (go_at_call 68; refine (HW.out _).mono ?_; rintro e w' ⟨rfl, rfl⟩) | (go_at_call 69; refine (HF.out _).mono ?_; rintro e w' ⟨rfl, rfl⟩) | (go_at_call 67; refine (bits_any _ _).mono ?_; rintro e w' ⟨rfl, rfl⟩))
    go_ret
    rw [HV.out]
    exact ⟨rfl, by repeat (first | exact Below.refl _ _ | exact (Below.refl _ _).alloc (Nat.le_refl _) _ | exact below_drewN ((Below.refl _ _).alloc (Nat.le_refl _) _) _)⟩

set_option maxRecDepth 100000 in
set_option maxHeartbeats 1000000 in
theorem valid_blob (k : ByteArray) (hk : Kd.of k.toList = .blob) (n u : Int) (f : Nat) (s : ByteArray) (w : World) :
    Calls Tryd.prog 33 #[.agg #[.string k, .int .i64 n, .int .u64 u, .float .f64 f, .string s]] w fun e w' => e = .returned (.bool (validB .blob n u f s)) ∧ Below w.heap.size w w' := by
  have hl := Kd.of_lit _ hk (by simp)
  simp only [Kd.lit] at hl
  have hw := fun w => width_any k w
  have hfl := fun w => isFloat_any k w
  rw [hk] at hw hfl
  simp only [Kd.width, Kd.sgn, Kd.flt] at hw hfl
  have HW := Lib.hid hw
  have HF := Lib.hid hfl
  clear hw hfl hk
  by_cases hn : n = 0
  · have hn' : (n == 0) = true := by simp [hn]
    by_cases hu : u = 0
    · have hu' : (u == 0) = true := by simp [hu]
      by_cases hf : bitsV f = 0
      · have hf' : ((bitsV f : Int) == 0) = true := by simp [hf]
        have hv : validB .blob n u f s = decide ((s.size : Int) ≤ 65536) := by simp [validB, hn, hu, hf]
        have HV := Lib.hid hv
        clear hv hn hu hf
        go_enter Tryd.func33, Tryd.ntmps33
        go_wp2_with (first | (go_at_call 68; refine (HW.out _).mono ?_; rintro e w' ⟨rfl, rfl⟩) | (go_at_call 69; refine (HF.out _).mono ?_; rintro e w' ⟨rfl, rfl⟩) | (go_at_call 67; refine (bits_any _ _).mono ?_; rintro e w' ⟨rfl, rfl⟩))
        go_ret
        rw [HV.out]
        exact ⟨rfl, by repeat (first | exact Below.refl _ _ | exact (Below.refl _ _).alloc (Nat.le_refl _) _ | exact below_drewN ((Below.refl _ _).alloc (Nat.le_refl _) _) _)⟩
      · have hf' : ((bitsV f : Int) == 0) = false := by simp; omega
        have hv : validB .blob n u f s = false := by simp [validB, hn, hu, hf]
        have HV := Lib.hid hv
        clear hv hn hu hf
        go_enter Tryd.func33, Tryd.ntmps33
        go_wp2_with (first | (go_at_call 68; refine (HW.out _).mono ?_; rintro e w' ⟨rfl, rfl⟩) | (go_at_call 69; refine (HF.out _).mono ?_; rintro e w' ⟨rfl, rfl⟩) | (go_at_call 67; refine (bits_any _ _).mono ?_; rintro e w' ⟨rfl, rfl⟩))
        go_ret
        rw [HV.out]
        exact ⟨rfl, by repeat (first | exact Below.refl _ _ | exact (Below.refl _ _).alloc (Nat.le_refl _) _ | exact below_drewN ((Below.refl _ _).alloc (Nat.le_refl _) _) _)⟩
    · have hu' : (u == 0) = false := by simp [hu]
      have hv : validB .blob n u f s = false := by simp [validB, hn, hu]
      have HV := Lib.hid hv
      clear hv hn hu
      go_enter Tryd.func33, Tryd.ntmps33
      go_wp2_with (first | (go_at_call 68; refine (HW.out _).mono ?_; rintro e w' ⟨rfl, rfl⟩) | (go_at_call 69; refine (HF.out _).mono ?_; rintro e w' ⟨rfl, rfl⟩) | (go_at_call 67; refine (bits_any _ _).mono ?_; rintro e w' ⟨rfl, rfl⟩))
      go_ret
      rw [HV.out]
      exact ⟨rfl, by repeat (first | exact Below.refl _ _ | exact (Below.refl _ _).alloc (Nat.le_refl _) _ | exact below_drewN ((Below.refl _ _).alloc (Nat.le_refl _) _) _)⟩
  · have hn' : (n == 0) = false := by simp [hn]
    have hv : validB .blob n u f s = false := by simp [validB, hn]
    have HV := Lib.hid hv
    clear hv hn
    go_enter Tryd.func33, Tryd.ntmps33
    go_wp2_with (first | (go_at_call 68; refine (HW.out _).mono ?_; rintro e w' ⟨rfl, rfl⟩) | (go_at_call 69; refine (HF.out _).mono ?_; rintro e w' ⟨rfl, rfl⟩) | (go_at_call 67; refine (bits_any _ _).mono ?_; rintro e w' ⟨rfl, rfl⟩))
    go_ret
    rw [HV.out]
    exact ⟨rfl, by repeat (first | exact Below.refl _ _ | exact (Below.refl _ _).alloc (Nat.le_refl _) _ | exact below_drewN ((Below.refl _ _).alloc (Nat.le_refl _) _) _)⟩

set_option maxRecDepth 100000 in
set_option maxHeartbeats 1000000 in
theorem valid_null (k : ByteArray) (hk : Kd.of k.toList = .null) (n u : Int) (f : Nat) (s : ByteArray) (w : World) :
    Calls Tryd.prog 33 #[.agg #[.string k, .int .i64 n, .int .u64 u, .float .f64 f, .string s]] w fun e w' => e = .returned (.bool (validB .null n u f s)) ∧ Below w.heap.size w w' := by
  have hl := Kd.of_lit _ hk (by simp)
  simp only [Kd.lit] at hl
  have hw := fun w => width_any k w
  have hfl := fun w => isFloat_any k w
  rw [hk] at hw hfl
  simp only [Kd.width, Kd.sgn, Kd.flt] at hw hfl
  have HW := Lib.hid hw
  have HF := Lib.hid hfl
  clear hw hfl hk
  by_cases hn : n = 0
  · have hn' : (n == 0) = true := by simp [hn]
    by_cases hu : u = 0
    · have hu' : (u == 0) = true := by simp [hu]
      by_cases hf : bitsV f = 0
      · have hf' : ((bitsV f : Int) == 0) = true := by simp [hf]
        have hv : validB .null n u f s = s.toList.isEmpty := by simp [validB, zeros, hn, hu, hf]
        have HV := Lib.hid hv
        clear hv hn hu hf
        go_enter Tryd.func33, Tryd.ntmps33
        go_wp2_with (first | (go_at_call 68; refine (HW.out _).mono ?_; rintro e w' ⟨rfl, rfl⟩) | (go_at_call 69; refine (HF.out _).mono ?_; rintro e w' ⟨rfl, rfl⟩) | (go_at_call 67; refine (bits_any _ _).mono ?_; rintro e w' ⟨rfl, rfl⟩))
        go_ret
        rw [HV.out]
        exact ⟨rfl, by repeat (first | exact Below.refl _ _ | exact (Below.refl _ _).alloc (Nat.le_refl _) _ | exact below_drewN ((Below.refl _ _).alloc (Nat.le_refl _) _) _)⟩
      · have hf' : ((bitsV f : Int) == 0) = false := by simp; omega
        have hv : validB .null n u f s = false := by simp [validB, zeros, hn, hu, hf]
        have HV := Lib.hid hv
        clear hv hn hu hf
        go_enter Tryd.func33, Tryd.ntmps33
        go_wp2_with (first | (go_at_call 68; refine (HW.out _).mono ?_; rintro e w' ⟨rfl, rfl⟩) | (go_at_call 69; refine (HF.out _).mono ?_; rintro e w' ⟨rfl, rfl⟩) | (go_at_call 67; refine (bits_any _ _).mono ?_; rintro e w' ⟨rfl, rfl⟩))
        go_ret
        rw [HV.out]
        exact ⟨rfl, by repeat (first | exact Below.refl _ _ | exact (Below.refl _ _).alloc (Nat.le_refl _) _ | exact below_drewN ((Below.refl _ _).alloc (Nat.le_refl _) _) _)⟩
    · have hu' : (u == 0) = false := by simp [hu]
      have hv : validB .null n u f s = false := by simp [validB, zeros, hn, hu]
      have HV := Lib.hid hv
      clear hv hn hu
      go_enter Tryd.func33, Tryd.ntmps33
      go_wp2_with (first | (go_at_call 68; refine (HW.out _).mono ?_; rintro e w' ⟨rfl, rfl⟩) | (go_at_call 69; refine (HF.out _).mono ?_; rintro e w' ⟨rfl, rfl⟩) | (go_at_call 67; refine (bits_any _ _).mono ?_; rintro e w' ⟨rfl, rfl⟩))
      go_ret
      rw [HV.out]
      exact ⟨rfl, by repeat (first | exact Below.refl _ _ | exact (Below.refl _ _).alloc (Nat.le_refl _) _ | exact below_drewN ((Below.refl _ _).alloc (Nat.le_refl _) _) _)⟩
  · have hn' : (n == 0) = false := by simp [hn]
    have hv : validB .null n u f s = false := by simp [validB, zeros, hn]
    have HV := Lib.hid hv
    clear hv hn
    go_enter Tryd.func33, Tryd.ntmps33
    go_wp2_with (first | (go_at_call 68; refine (HW.out _).mono ?_; rintro e w' ⟨rfl, rfl⟩) | (go_at_call 69; refine (HF.out _).mono ?_; rintro e w' ⟨rfl, rfl⟩) | (go_at_call 67; refine (bits_any _ _).mono ?_; rintro e w' ⟨rfl, rfl⟩))
    go_ret
    rw [HV.out]
    exact ⟨rfl, by repeat (first | exact Below.refl _ _ | exact (Below.refl _ _).alloc (Nat.le_refl _) _ | exact below_drewN ((Below.refl _ _).alloc (Nat.le_refl _) _) _)⟩

end Go.Proofs.YtffgkocokkhahaaDoor
