/-
  The walk of laws.valid: float32, a kind that is none; and all kinds together.
-/
import Derived.Test.YtffgkocokkhahaaDoorTp02
import Derived.Test.YtffgkocokkhahaaDoorTp03
import Derived.Test.YtffgkocokkhahaaDoorTp04
import Derived.Deep.RegionWith

/- The walk of laws.valid: float32, a kind that is none; and all kinds together. -/
namespace Go.Proofs.YtffgkocokkhahaaDoor
open Go.RowKit

set_option maxRecDepth 100000 in
set_option maxHeartbeats 1000000 in
theorem valid_f32_nan (k : ByteArray) (hk : Kd.of k.toList = .f32) (n u : Int) (f : Nat) (s : ByteArray) (hn : n = 0) (hu : u = 0) (hs : s.toList.isEmpty = true) (hf : (Ieee.double.read f).isNaN = true) (w : World) :
    Calls Tryd.prog 33 #[.agg #[.string k, .int .i64 n, .int .u64 u, .float .f64 f, .string s]] w fun e w' => e = .returned (.bool true) ∧ Below w.heap.size w w' := by
  have hl := Kd.of_lit _ hk (by simp)
  simp only [Kd.lit] at hl
  have hw := fun w => width_any k w
  have hfl := fun w => isFloat_any k w
  rw [hk] at hw hfl
  simp only [Kd.width, Kd.sgn, Kd.flt] at hw hfl
  have HW := Lib.hid hw
  have HF := Lib.hid hfl
  clear hw hfl hk
  have hn' : (n == 0) = true := by simp [hn]
  have hu' : (u == 0) = true := by simp [hu]
  have c1 := fun W => run_nan32 f hf W
  have c2 := fun W W' => run_nan64 (nan32 W f) (isNaN_nan32 W f) W'
  have HB := Lib.hid (bitsV_nan hf)
  clear hn hu hf
  go_enter Tryd.func33, Tryd.ntmps33
  go_wp2_with (first | (go_at_call 68; refine (HW.out _).mono ?_; rintro e w' ⟨rfl, rfl⟩) | (go_at_call 69; refine (HF.out _).mono ?_; rintro e w' ⟨rfl, rfl⟩))
  go_region_with (go_at_call 67; refine (bits_any _ _).mono ?_; rintro e w' ⟨rfl, rfl⟩)
  all_goals
    go_wp2
    go_ret
    refine ⟨?_, ?_⟩
    · simp only [HB.out, bitsV_nan (isNaN_nan64 _ _)]
      rfl
    · repeat (first | exact (Below.refl _ _).alloc (Nat.le_refl _) _ | refine Below.drew ?_)

set_option maxRecDepth 100000 in
set_option maxHeartbeats 1000000 in
theorem valid_f32_over (k : ByteArray) (hk : Kd.of k.toList = .f32) (n u : Int) (f : Nat) (s : ByteArray) (hn : n = 0) (hu : u = 0) (hs : s.toList.isEmpty = true)
    (h1 : (Ieee.single.read (Flt.down f)).isInfinity = true) (h2 : (Ieee.double.read f).isInfinity = false) (h3 : (Ieee.double.read f).isNaN = false) (w : World) :
    Calls Tryd.prog 33 #[.agg #[.string k, .int .i64 n, .int .u64 u, .float .f64 f, .string s]] w fun e w' => e = .returned (.bool false) ∧ Below w.heap.size w w' := by
  have hl := Kd.of_lit _ hk (by simp)
  simp only [Kd.lit] at hl
  have hw := fun w => width_any k w
  have hfl := fun w => isFloat_any k w
  rw [hk] at hw hfl
  simp only [Kd.width, Kd.sgn, Kd.flt] at hw hfl
  have HW := Lib.hid hw
  have HF := Lib.hid hfl
  clear hw hfl hk
  have hn' : (n == 0) = true := by simp [hn]
  have hu' : (u == 0) = true := by simp [hu]
  have c1 := fun W => run_over32 f h1 h2 h3 W
  have c2 := fun W W' => run_wide_any (over32 W f) W'
  have HB := Lib.hid (fun W W' => beq_eq_false_iff_ne.2 (fun e => wide_over (W := W') (over32_lt W f) h1 h2 h3 (Int.ofNat.inj e)) : ∀ W W', ((bitsV (wide W' (over32 W f)) : Int) == bitsV f) = false)
  clear hn hu h1 h2 h3
  go_enter Tryd.func33, Tryd.ntmps33
  go_wp2_with (first | (go_at_call 68; refine (HW.out _).mono ?_; rintro e w' ⟨rfl, rfl⟩) | (go_at_call 69; refine (HF.out _).mono ?_; rintro e w' ⟨rfl, rfl⟩))
  go_region_with (go_at_call 67; refine (bits_any _ _).mono ?_; rintro e w' ⟨rfl, rfl⟩)
  all_goals
    go_wp2
    go_ret
    refine ⟨?_, ?_⟩
    · simp only [HB.out]
      rfl
    · repeat (first | exact (Below.refl _ _).alloc (Nat.le_refl _) _ | refine Below.drew ?_ | refine below_drewN ?_ _)

set_option maxRecDepth 100000 in
set_option maxHeartbeats 1000000 in
theorem valid_f32_num (k : ByteArray) (hk : Kd.of k.toList = .f32) (n u : Int) (f : Nat) (s : ByteArray) (hn : n = 0) (hu : u = 0) (hs : s.toList.isEmpty = true)
    (h1 : ((Ieee.single.read (Flt.down f)).isInfinity && !(Ieee.double.read f).isInfinity) = false) (h3 : (Ieee.double.read f).isNaN = false) (h4 : (Ieee.single.read (Flt.down f)).isNaN = false) (w : World) :
    Calls Tryd.prog 33 #[.agg #[.string k, .int .i64 n, .int .u64 u, .float .f64 f, .string s]] w fun e w' => e = .returned (.bool ((bitsV (Flt.up (Flt.down f)) : Int) == bitsV f)) ∧ Below w.heap.size w w' := by
  have hl := Kd.of_lit _ hk (by simp)
  simp only [Kd.lit] at hl
  have hw := fun w => width_any k w
  have hfl := fun w => isFloat_any k w
  rw [hk] at hw hfl
  simp only [Kd.width, Kd.sgn, Kd.flt] at hw hfl
  have HW := Lib.hid hw
  have HF := Lib.hid hfl
  clear hw hfl hk
  have hn' : (n == 0) = true := by simp [hn]
  have hu' : (u == 0) = true := by simp [hu]
  have c1 := fun W => run_narrow f h1 h3 W
  have c2 := fun W => run_wide (Flt.down f) h4 W
  clear hn hu h1 h3 h4
  go_enter Tryd.func33, Tryd.ntmps33
  go_wp2_with (first | (go_at_call 68; refine (HW.out _).mono ?_; rintro e w' ⟨rfl, rfl⟩) | (go_at_call 69; refine (HF.out _).mono ?_; rintro e w' ⟨rfl, rfl⟩))
  go_quiet ((go_at_call 67; exact quiet_of_left (bits_any _ _)))
  go_wp2
  go_ret
  exact ⟨rfl, below_drewN ((Below.refl _ _).alloc (Nat.le_refl _) _) _⟩

set_option maxRecDepth 100000 in
set_option maxHeartbeats 1000000 in
theorem valid_f32_not (k : ByteArray) (hk : Kd.of k.toList = .f32) (n u : Int) (f : Nat) (s : ByteArray) (h : (n == 0 && u == 0 && s.toList.isEmpty) = false) (w : World) :
    Calls Tryd.prog 33 #[.agg #[.string k, .int .i64 n, .int .u64 u, .float .f64 f, .string s]] w fun e w' => e = .returned (.bool false) ∧ Below w.heap.size w w' := by
  have hl := Kd.of_lit _ hk (by simp)
  simp only [Kd.lit] at hl
  have hw := fun w => width_any k w
  have hfl := fun w => isFloat_any k w
  rw [hk] at hw hfl
  simp only [Kd.width, Kd.sgn, Kd.flt] at hw hfl
  have HW := Lib.hid hw
  have HF := Lib.hid hfl
  clear hw hfl hk
  by_cases hn : (n == 0) = true
  · by_cases hu : (u == 0) = true
    · have hs : s.toList.isEmpty = false := by rw [hn, hu] at h; simpa using h
      clear h
      go_enter Tryd.func33, Tryd.ntmps33
      go_wp2_with (first | (go_at_call 68; refine (HW.out _).mono ?_; rintro e w' ⟨rfl, rfl⟩) | (go_at_call 69; refine (HF.out _).mono ?_; rintro e w' ⟨rfl, rfl⟩))
      go_quiet ((go_at_call 67; exact quiet_of_left (bits_any _ _)))
      go_wp2
      go_ret
      exact ⟨rfl, below_drewN ((Below.refl _ _).alloc (Nat.le_refl _) _) _⟩
    · have hu' : (u == 0) = false := by simpa using hu
      clear h hu
      go_enter Tryd.func33, Tryd.ntmps33
      go_wp2_with (first | (go_at_call 68; refine (HW.out _).mono ?_; rintro e w' ⟨rfl, rfl⟩) | (go_at_call 69; refine (HF.out _).mono ?_; rintro e w' ⟨rfl, rfl⟩))
      go_quiet ((go_at_call 67; exact quiet_of_left (bits_any _ _)))
      go_wp2
      go_ret
      exact ⟨rfl, below_drewN ((Below.refl _ _).alloc (Nat.le_refl _) _) _⟩
  · have hn' : (n == 0) = false := by simpa using hn
    clear h hn
    go_enter Tryd.func33, Tryd.ntmps33
    go_wp2_with (first | (go_at_call 68; refine (HW.out _).mono ?_; rintro e w' ⟨rfl, rfl⟩) | (go_at_call 69; refine (HF.out _).mono ?_; rintro e w' ⟨rfl, rfl⟩))
    go_quiet ((go_at_call 67; exact quiet_of_left (bits_any _ _)))
    go_wp2
    go_ret
    exact ⟨rfl, below_drewN ((Below.refl _ _).alloc (Nat.le_refl _) _) _⟩

set_option maxRecDepth 100000 in
set_option maxHeartbeats 1000000 in
theorem valid_other (k : ByteArray) (hk : Kd.of k.toList = .other) (n u : Int) (f : Nat) (s : ByteArray) (w : World) :
    Calls Tryd.prog 33 #[.agg #[.string k, .int .i64 n, .int .u64 u, .float .f64 f, .string s]] w fun e w' => e = .returned (.bool false) ∧ Below w.heap.size w w' := by
  obtain ⟨h1, h2, h3, h4, h5, h6, h7, h8, h9, h10, h11, h12, h13, h14, h15, h16, h17, h18⟩ := Kd.of_other _ hk
  have hw := fun w => width_any k w
  have hfl := fun w => isFloat_any k w
  rw [hk] at hw hfl
  simp only [Kd.width, Kd.sgn, Kd.flt] at hw hfl
  have HW := Lib.hid hw
  have HF := Lib.hid hfl
  clear hw hfl hk
  go_enter Tryd.func33, Tryd.ntmps33
  go_wp2_with (first | (go_at_call 68; refine (HW.out _).mono ?_; rintro e w' ⟨rfl, rfl⟩) | (go_at_call 69; refine (HF.out _).mono ?_; rintro e w' ⟨rfl, rfl⟩))
  go_ret
  exact ⟨rfl, (Below.refl _ _).alloc (Nat.le_refl _) _⟩

end Go.Proofs.YtffgkocokkhahaaDoor
