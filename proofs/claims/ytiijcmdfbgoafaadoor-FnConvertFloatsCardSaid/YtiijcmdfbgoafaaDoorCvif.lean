/-
  ql.convert of a literal's float to each type of integers. PRINTED BY wip/tpl/gen_cvt.py.
-/
import Derived.Test.YtiijcmdfbgoafaaDoorCvo
import Derived.Test.YtiijcmdfbgoafaaDoorMf
import Derived.Test.YtiijcmdfbgoafaaDoorCvj0
namespace Go.Proofs.YtiijcmdfbgoafaaDoor
open Go.RowKit

set_option maxRecDepth 100000 in
set_option maxHeartbeats 1000000 in
theorem cv_i8_iFloat (x : Nat) (w : World) : Calls Tryd.prog 57 #[.iface 91 (.float .f64 x), .int .i64 105] w (CvI .i8 w) := by
  have c1 := fun W => run_fti 91 74 .f64 .i8 x (by rw [Tryd.underlying91]; rfl) Tryd.underlying74 W
  go_enter Tryd.func57, Tryd.ntmps57
  go_wp2_with (first | (go_at_call 61; refine (ovo_iFloat x _ _).mono ?_; rintro e w0 ⟨rfl, rfl⟩) | (go_at_call 63; refine (modf_any _ _).mono ?_; rintro e w1 ⟨a, b, rfl, hb1⟩; cases hq : (FloatKind.f64.format.order b 0 != some .eq)) | (go_at_call 64; refine (truncConv_er _ _).mono ?_; rintro e w2 ⟨p, rfl, hE0, hb2⟩; have hE := Lib.hid hE0; clear hE0))
  · go_ret2
    exact .inr ⟨_, (fti_in _ _ _ _).1, (fti_in _ _ _ _).2, rfl, below_drewN hb1 _⟩
  · go_ret2
    exact .inl ⟨p, rfl, hE.out, hb1.trans (hb2.mono hb1.size)⟩

set_option maxRecDepth 100000 in
set_option maxHeartbeats 1000000 in
theorem cv_i16_iFloat (x : Nat) (w : World) : Calls Tryd.prog 57 #[.iface 91 (.float .f64 x), .int .i64 106] w (CvI .i16 w) := by
  have c1 := fun W => run_fti 91 75 .f64 .i16 x (by rw [Tryd.underlying91]; rfl) Tryd.underlying75 W
  go_enter Tryd.func57, Tryd.ntmps57
  go_wp2_with (first | (go_at_call 61; refine (ovo_iFloat x _ _).mono ?_; rintro e w0 ⟨rfl, rfl⟩) | (go_at_call 63; refine (modf_any _ _).mono ?_; rintro e w1 ⟨a, b, rfl, hb1⟩; cases hq : (FloatKind.f64.format.order b 0 != some .eq)) | (go_at_call 64; refine (truncConv_er _ _).mono ?_; rintro e w2 ⟨p, rfl, hE0, hb2⟩; have hE := Lib.hid hE0; clear hE0))
  · go_ret2
    exact .inr ⟨_, (fti_in _ _ _ _).1, (fti_in _ _ _ _).2, rfl, below_drewN hb1 _⟩
  · go_ret2
    exact .inl ⟨p, rfl, hE.out, hb1.trans (hb2.mono hb1.size)⟩

set_option maxRecDepth 100000 in
set_option maxHeartbeats 1000000 in
theorem cv_i32_iFloat (x : Nat) (w : World) : Calls Tryd.prog 57 #[.iface 91 (.float .f64 x), .int .i64 107] w (CvI .i32 w) := by
  have c1 := fun W => run_fti 91 21 .f64 .i32 x (by rw [Tryd.underlying91]; rfl) Tryd.underlying21 W
  go_enter Tryd.func57, Tryd.ntmps57
  go_wp2_with (first | (go_at_call 61; refine (ovo_iFloat x _ _).mono ?_; rintro e w0 ⟨rfl, rfl⟩) | (go_at_call 63; refine (modf_any _ _).mono ?_; rintro e w1 ⟨a, b, rfl, hb1⟩; cases hq : (FloatKind.f64.format.order b 0 != some .eq)) | (go_at_call 64; refine (truncConv_er _ _).mono ?_; rintro e w2 ⟨p, rfl, hE0, hb2⟩; have hE := Lib.hid hE0; clear hE0))
  · go_ret2
    exact .inr ⟨_, (fti_in _ _ _ _).1, (fti_in _ _ _ _).2, rfl, below_drewN hb1 _⟩
  · go_ret2
    exact .inl ⟨p, rfl, hE.out, hb1.trans (hb2.mono hb1.size)⟩

set_option maxRecDepth 100000 in
set_option maxHeartbeats 1000000 in
theorem cv_i64_iFloat (x : Nat) (w : World) : Calls Tryd.prog 57 #[.iface 91 (.float .f64 x), .int .i64 108] w (CvI .i64 w) := by
  have c1 := fun W => run_fti 91 2 .f64 .i64 x (by rw [Tryd.underlying91]; rfl) Tryd.underlying2 W
  go_enter Tryd.func57, Tryd.ntmps57
  go_wp2_with (first | (go_at_call 61; refine (ovo_iFloat x _ _).mono ?_; rintro e w0 ⟨rfl, rfl⟩) | (go_at_call 63; refine (modf_any _ _).mono ?_; rintro e w1 ⟨a, b, rfl, hb1⟩; cases hq : (FloatKind.f64.format.order b 0 != some .eq)) | (go_at_call 64; refine (truncConv_er _ _).mono ?_; rintro e w2 ⟨p, rfl, hE0, hb2⟩; have hE := Lib.hid hE0; clear hE0))
  · go_ret2
    exact .inr ⟨_, (fti_in _ _ _ _).1, (fti_in _ _ _ _).2, rfl, below_drewN hb1 _⟩
  · go_ret2
    exact .inl ⟨p, rfl, hE.out, hb1.trans (hb2.mono hb1.size)⟩

set_option maxRecDepth 100000 in
set_option maxHeartbeats 1000000 in
theorem cv_u8_iFloat (x : Nat) (w : World) : Calls Tryd.prog 57 #[.iface 91 (.float .f64 x), .int .i64 117] w (CvI .u8 w) := by
  have c1 := fun W => run_fti 91 5 .f64 .u8 x (by rw [Tryd.underlying91]; rfl) Tryd.underlying5 W
  go_enter Tryd.func57, Tryd.ntmps57
  go_wp2_with (first | (go_at_call 61; refine (ovo_iFloat x _ _).mono ?_; rintro e w0 ⟨rfl, rfl⟩) | (go_at_call 63; refine (modf_any _ _).mono ?_; rintro e w1 ⟨a, b, rfl, hb1⟩; cases hq : (FloatKind.f64.format.order b 0 != some .eq)) | (go_at_call 64; refine (truncConv_er _ _).mono ?_; rintro e w2 ⟨p, rfl, hE0, hb2⟩; have hE := Lib.hid hE0; clear hE0))
  · go_ret2
    exact .inr ⟨_, (fti_in _ _ _ _).1, (fti_in _ _ _ _).2, rfl, below_drewN hb1 _⟩
  · go_ret2
    exact .inl ⟨p, rfl, hE.out, hb1.trans (hb2.mono hb1.size)⟩

set_option maxRecDepth 100000 in
set_option maxHeartbeats 1000000 in
theorem cv_u16_iFloat (x : Nat) (w : World) : Calls Tryd.prog 57 #[.iface 91 (.float .f64 x), .int .i64 118] w (CvI .u16 w) := by
  have c1 := fun W => run_fti 91 76 .f64 .u16 x (by rw [Tryd.underlying91]; rfl) Tryd.underlying76 W
  go_enter Tryd.func57, Tryd.ntmps57
  go_wp2_with (first | (go_at_call 61; refine (ovo_iFloat x _ _).mono ?_; rintro e w0 ⟨rfl, rfl⟩) | (go_at_call 63; refine (modf_any _ _).mono ?_; rintro e w1 ⟨a, b, rfl, hb1⟩; cases hq : (FloatKind.f64.format.order b 0 != some .eq)) | (go_at_call 64; refine (truncConv_er _ _).mono ?_; rintro e w2 ⟨p, rfl, hE0, hb2⟩; have hE := Lib.hid hE0; clear hE0))
  · go_ret2
    exact .inr ⟨_, (fti_in _ _ _ _).1, (fti_in _ _ _ _).2, rfl, below_drewN hb1 _⟩
  · go_ret2
    exact .inl ⟨p, rfl, hE.out, hb1.trans (hb2.mono hb1.size)⟩

set_option maxRecDepth 100000 in
set_option maxHeartbeats 1000000 in
theorem cv_u32_iFloat (x : Nat) (w : World) : Calls Tryd.prog 57 #[.iface 91 (.float .f64 x), .int .i64 119] w (CvI .u32 w) := by
  have c1 := fun W => run_fti 91 77 .f64 .u32 x (by rw [Tryd.underlying91]; rfl) Tryd.underlying77 W
  go_enter Tryd.func57, Tryd.ntmps57
  go_wp2_with (first | (go_at_call 61; refine (ovo_iFloat x _ _).mono ?_; rintro e w0 ⟨rfl, rfl⟩) | (go_at_call 63; refine (modf_any _ _).mono ?_; rintro e w1 ⟨a, b, rfl, hb1⟩; cases hq : (FloatKind.f64.format.order b 0 != some .eq)) | (go_at_call 64; refine (truncConv_er _ _).mono ?_; rintro e w2 ⟨p, rfl, hE0, hb2⟩; have hE := Lib.hid hE0; clear hE0))
  · go_ret2
    exact .inr ⟨_, (fti_in _ _ _ _).1, (fti_in _ _ _ _).2, rfl, below_drewN hb1 _⟩
  · go_ret2
    exact .inl ⟨p, rfl, hE.out, hb1.trans (hb2.mono hb1.size)⟩

set_option maxRecDepth 100000 in
set_option maxHeartbeats 1000000 in
theorem cv_u64_iFloat (x : Nat) (w : World) : Calls Tryd.prog 57 #[.iface 91 (.float .f64 x), .int .i64 120] w (CvI .u64 w) := by
  have c1 := fun W => run_fti 91 27 .f64 .u64 x (by rw [Tryd.underlying91]; rfl) Tryd.underlying27 W
  go_enter Tryd.func57, Tryd.ntmps57
  go_wp2_with (first | (go_at_call 61; refine (ovo_iFloat x _ _).mono ?_; rintro e w0 ⟨rfl, rfl⟩) | (go_at_call 63; refine (modf_any _ _).mono ?_; rintro e w1 ⟨a, b, rfl, hb1⟩; cases hq : (FloatKind.f64.format.order b 0 != some .eq)) | (go_at_call 64; refine (truncConv_er _ _).mono ?_; rintro e w2 ⟨p, rfl, hE0, hb2⟩; have hE := Lib.hid hE0; clear hE0))
  · go_ret2
    exact .inr ⟨_, (fti_in _ _ _ _).1, (fti_in _ _ _ _).2, rfl, below_drewN hb1 _⟩
  · go_ret2
    exact .inl ⟨p, rfl, hE.out, hb1.trans (hb2.mono hb1.size)⟩

end Go.Proofs.YtiijcmdfbgoafaaDoor
