/-
  impl.Convert between integers up to 2^24 in size and floats, exactly; of a float64 to float32. PRINTED BY wip/tpl/gen_lawcvf.py.
-/
import Derived.Test.YtiijcmdfbgoafaaDoorCvl
import Derived.Test.YtiijcmdfbgoafaaDoorFlt2
namespace Go.Proofs.YtiijcmdfbgoafaaDoor
open Go.RowKit

def f32S : ByteArray := ⟨#[102, 108, 111, 97, 116, 51, 50]⟩
def f64S : ByteArray := ⟨#[102, 108, 111, 97, 116, 54, 52]⟩
theorem f32S_kd : Kd.of f32S.toList = .f32 := by decide +kernel
theorem f64S_kd : Kd.of f64S.toList = .f64 := by decide +kernel

theorem implCv_down (k : ByteArray) (n u : Int) (f : Nat) (s : ByteArray) (hr : Rng n u f) (hv : validB (Kd.of k.toList) n u f s = true) (hk : Kd.of k.toList = .f64) (hn : (Ieee.double.read f).isNaN = false) (ho : (Ieee.single.read (Flt.down f)).isInfinity = false) (a : Addr) (w : World) (hg : Has w a) :
    Calls Tryd.prog 15 #[.agg #[.string k, .int .i64 n, .int .u64 u, .float .f64 f, .string s], .string f32S] w fun e w' => e = .returned (.tuple #[.agg #[.string f32S, .int .i64 0, .int .u64 0, .float .f64 (Flt.up (Flt.down f)), .string ⟨#[]⟩], .int .i64 0]) ∧ Below w.heap.size w w' := by
  refine (implCv_any k n u f s hr hv (by rw [hk]; decide) f32S (by rw [f32S_kd]; rfl) a w hg).mono ?_
  rintro e w' ⟨kk, nn, uu, gg, ss, c, he, hb, y, hsv, hq⟩
  rw [hk] at hsv
  unfold SVof at hsv
  rw [if_neg (fun h => by cases h.1)] at hsv
  subst hsv
  rw [f32S_kd] at hq
  rcases hq with ⟨z, h1, h2, h3, h4, hfo, rfl, rfl, rfl, rfl, rfl⟩ | ⟨hc, _⟩
  · obtain rfl : z = .f32 (Flt.down f) := h1 (by rw [ho]; rfl) hn
    obtain rfl := out_num (x := .f32 (Flt.down f)) (down_num hn) hfo
    exact ⟨he, hb⟩
  · cases hc

theorem sv_int {q : IntKind} {n u : Int} {f : Nat} {s : ByteArray} (hv : validB (.int q) n u f s = true) : SVof (.int q) n u f s (.int q (n + u)) := by
  unfold SVof
  rw [if_neg (fun h => by cases h.1)]
  cases q <;> simp only [validB, Bool.and_eq_true, beq_iff_eq] at hv <;> simp only [toSV, IntKind.signed, if_true, if_false, Bool.false_eq_true] <;> congr 1 <;> omega

theorem implCv_tof32 (q : IntKind) (k : ByteArray) (n u : Int) (f : Nat) (s : ByteArray) (hr : Rng n u f) (hv : validB (Kd.of k.toList) n u f s = true) (hk : Kd.of k.toList = .int q) (hm : (n + u).natAbs ≤ 2 ^ 24) (a : Addr) (w : World) (hg : Has w a) :
    Calls Tryd.prog 15 #[.agg #[.string k, .int .i64 n, .int .u64 u, .float .f64 f, .string s], .string f32S] w fun e w' => e = .returned (.tuple #[.agg #[.string f32S, .int .i64 0, .int .u64 0, .float .f64 (Flt.up (FloatKind.f32.nearest (n + u))), .string ⟨#[]⟩], .int .i64 0]) ∧ Below w.heap.size w w' := by
  refine (implCv_any k n u f s hr hv (by rw [hk]; exact fun h => by cases h) f32S (by rw [f32S_kd]; rfl) a w hg).mono ?_
  rintro e w' ⟨kk, nn, uu, gg, ss, c, he, hb, y, hsv, hq⟩
  rw [hk] at hsv hv
  have hs2 := sv_int hv
  unfold SVof at hsv hs2
  rw [if_neg (fun h => by cases h.1)] at hsv hs2
  rw [← hs2] at hsv
  subst hsv
  rw [f32S_kd] at hq
  rcases hq with ⟨z, h1, h2, h3, h4, hfo, rfl, rfl, rfl, rfl, rfl⟩ | ⟨hc, _⟩
  · obtain rfl : z = .f32 (FloatKind.f32.nearest (n + u)) := h1
    obtain rfl := out_num (x := .f32 (FloatKind.f32.nearest (n + u))) (Flt.not_nan_of_key (Flt.key_near_s hm).1) hfo
    exact ⟨he, hb⟩
  · cases hc

theorem implCv_off32 (q : IntKind) (k : ByteArray) (n u : Int) (f : Nat) (s : ByteArray) (hr : Rng n u f) (hv : validB (Kd.of k.toList) n u f s = true) (hk : Kd.of k.toList = .int q) (hm : (n + u).natAbs ≤ 2 ^ 24) (a : Addr) (w : World) (hg : Has w a) :
    Calls Tryd.prog 15 #[.agg #[.string f32S, .int .i64 0, .int .u64 0, .float .f64 (Flt.up (FloatKind.f32.nearest (n + u))), .string ⟨#[]⟩], .string k] w fun e w' => ∃ kj nj uj gj sj, e = .returned (.tuple #[.agg #[.string kj, .int .i64 nj, .int .u64 uj, .float .f64 gj, .string sj], .int .i64 0]) ∧ Below w.heap.size w w' ∧ sameB kj nj uj gj sj k n u f s = true := by
  have hsv0 : SVof (Kd.of k.toList) n u f s (.int q (n + u)) := by rw [hk] at hv ⊢; exact sv_int hv
  have hw0 : (SV.int q (n + u)).wf := toSV_wf hr hv hsv0
  have hkey := Flt.key_near_s hm
  have hnn := Flt.not_nan_of_key hkey.1
  have hlt := near_lt_f32 (n + u)
  have hdu := Flt.down_up hlt hnn
  have hnb : numB (Flt.up (FloatKind.f32.nearest (n + u))) = true := by rw [numB_nan, (Flt.up_key hnn).2.2.1]; rfl
  have hto : floatToIntVal .f32 (FloatKind.f32.nearest (n + u)) q = some (n + u) := by
    unfold floatToIntVal
    have h1 := Flt.key_toInt Ieee.single (.inr rfl) _ hkey.1 hkey.2
    have h2 : (FloatKind.f32.decode (FloatKind.f32.nearest (n + u))).toInt .zero = some (n + u) := h1
    rw [h2]
    exact if_pos hw0
  obtain ⟨hv1, hr1⟩ := out_valid (x := .f32 (FloatKind.f32.nearest (n + u))) hlt trivial rfl (g := Flt.up (FloatKind.f32.nearest (n + u))) (by unfold FOut; rw [if_neg (by show ¬ ((Ieee.single.read (FloatKind.f32.nearest (n + u))).isNaN = true); rw [hnn]; decide)]; rfl)
  refine (implCv_any f32S 0 0 (Flt.up (FloatKind.f32.nearest (n + u))) ⟨#[]⟩ hr1 (by rw [f32S_kd]; exact hv1) (by rw [f32S_kd]; decide) k (by rw [hk]; rfl) a w hg).mono ?_
  rintro e w' ⟨kk, nn, uu, gg, ss, c, he, hb, y, hsv, hq⟩
  rw [f32S_kd] at hsv
  unfold SVof at hsv
  rw [if_neg (fun h => by rw [hnb] at h; cases h.2)] at hsv
  simp only [toSV, hdu] at hsv
  subst hsv
  rw [hk] at hq
  rcases hq with ⟨z, h1, h2, h3, h4, hfo, rfl, rfl, rfl, rfl, rfl⟩ | ⟨hc, _⟩
  · obtain rfl : z = .int q (n + u) := h1 _ hto
    exact ⟨_, _, _, _, _, he, hb, back_same hv hsv0 hfo⟩
  · cases hc

theorem implCv_tof64 (q : IntKind) (k : ByteArray) (n u : Int) (f : Nat) (s : ByteArray) (hr : Rng n u f) (hv : validB (Kd.of k.toList) n u f s = true) (hk : Kd.of k.toList = .int q) (_hm : (n + u).natAbs ≤ 2 ^ 24) (a : Addr) (w : World) (hg : Has w a) :
    Calls Tryd.prog 15 #[.agg #[.string k, .int .i64 n, .int .u64 u, .float .f64 f, .string s], .string f64S] w fun e w' => e = .returned (.tuple #[.agg #[.string f64S, .int .i64 0, .int .u64 0, .float .f64 (FloatKind.f64.nearest (n + u)), .string ⟨#[]⟩], .int .i64 0]) ∧ Below w.heap.size w w' := by
  refine (implCv_any k n u f s hr hv (by rw [hk]; exact fun h => by cases h) f64S (by rw [f64S_kd]; rfl) a w hg).mono ?_
  rintro e w' ⟨kk, nn, uu, gg, ss, c, he, hb, y, hsv, hq⟩
  rw [hk] at hsv hv
  have hs2 := sv_int hv
  unfold SVof at hsv hs2
  rw [if_neg (fun h => by cases h.1)] at hsv hs2
  rw [← hs2] at hsv
  subst hsv
  rw [f64S_kd] at hq
  rcases hq with ⟨z, h1, h2, h3, h4, hfo, rfl, rfl, rfl, rfl, rfl⟩ | ⟨hc, _⟩
  · obtain rfl : z = .f64 (FloatKind.f64.nearest (n + u)) := h1
    obtain rfl := out_num (x := .f64 (FloatKind.f64.nearest (n + u))) (rfl) hfo
    exact ⟨he, hb⟩
  · cases hc

theorem implCv_off64 (q : IntKind) (k : ByteArray) (n u : Int) (f : Nat) (s : ByteArray) (hr : Rng n u f) (hv : validB (Kd.of k.toList) n u f s = true) (hk : Kd.of k.toList = .int q) (hm : (n + u).natAbs ≤ 2 ^ 24) (a : Addr) (w : World) (hg : Has w a) :
    Calls Tryd.prog 15 #[.agg #[.string f64S, .int .i64 0, .int .u64 0, .float .f64 (FloatKind.f64.nearest (n + u)), .string ⟨#[]⟩], .string k] w fun e w' => ∃ kj nj uj gj sj, e = .returned (.tuple #[.agg #[.string kj, .int .i64 nj, .int .u64 uj, .float .f64 gj, .string sj], .int .i64 0]) ∧ Below w.heap.size w w' ∧ sameB kj nj uj gj sj k n u f s = true := by
  have hsv0 : SVof (Kd.of k.toList) n u f s (.int q (n + u)) := by rw [hk] at hv ⊢; exact sv_int hv
  have hw0 : (SV.int q (n + u)).wf := toSV_wf hr hv hsv0
  have hkey := Flt.key_near_d hm
  have hlt := near_lt_f64 (n + u)
  have hto : floatToIntVal .f64 (FloatKind.f64.nearest (n + u)) q = some (n + u) := by
    unfold floatToIntVal
    obtain ⟨s0, m0, p0, hrd, hp0, hs0⟩ := Flt.near_number hm
    have h1 := Flt.key_toInt Ieee.double (.inl rfl) _ hkey (by rw [hrd]; rfl)
    have h2 : (FloatKind.f64.decode (FloatKind.f64.nearest (n + u))).toInt .zero = some (n + u) := h1
    rw [h2]
    exact if_pos hw0
  obtain ⟨hv1, hr1⟩ := out_valid (x := .f64 (FloatKind.f64.nearest (n + u))) hlt trivial rfl (g := FloatKind.f64.nearest (n + u)) rfl
  refine (implCv_any f64S 0 0 (FloatKind.f64.nearest (n + u)) ⟨#[]⟩ hr1 (by rw [f64S_kd]; exact hv1) (by rw [f64S_kd]; decide) k (by rw [hk]; rfl) a w hg).mono ?_
  rintro e w' ⟨kk, nn, uu, gg, ss, c, he, hb, y, hsv, hq⟩
  rw [f64S_kd] at hsv
  unfold SVof at hsv
  rw [if_neg (fun h => by cases h.1)] at hsv
  simp only [toSV] at hsv
  subst hsv
  rw [hk] at hq
  rcases hq with ⟨z, h1, h2, h3, h4, hfo, rfl, rfl, rfl, rfl, rfl⟩ | ⟨hc, _⟩
  · obtain rfl : z = .int q (n + u) := h1 _ hto
    exact ⟨_, _, _, _, _, he, hb, back_same hv hsv0 hfo⟩
  · cases hc

theorem wrap_u64 (n : Int) (h0 : 0 ≤ n) (h1 : n ≤ 18446744073709551615) : IntKind.u64.wrap n = n := wrap_i (by simp [IntKind.min, IntKind.signed]; omega) (by simp [IntKind.max, IntKind.signed, IntKind.bits]; omega)

set_option maxRecDepth 100000 in
set_option maxHeartbeats 1000000 in
theorem size_any (n : Int) (h1 : -9223372036854775808 ≤ n) (h2 : n ≤ 9223372036854775807) (w : World) : Calls Tryd.prog 18 #[.int .i64 n] w fun e w' => e = .returned (.int .u64 n.natAbs) ∧ w = w' := by
  by_cases h : n < 0
  · have e1 : IntKind.u64.wrap (-(IntKind.u64.wrap n)) = n.natAbs := by
      simp only [IntKind.wrap, IntKind.bits, IntKind.signed, Bool.false_and, Bool.false_eq_true, if_false, Int.reducePow]
      omega
    go_enter Tryd.func18, Tryd.ntmps18
    go_wp2
    go_ret
    exact ⟨by first | rw [e1] | simp, rfl⟩
  · have e1 : IntKind.u64.wrap n = n.natAbs := by rw [wrap_u64 n (by omega) (by omega)]; omega
    go_enter Tryd.func18, Tryd.ntmps18
    go_wp2
    go_ret
    exact ⟨by first | rw [e1] | simp, rfl⟩

end Go.Proofs.YtiijcmdfbgoafaaDoor
