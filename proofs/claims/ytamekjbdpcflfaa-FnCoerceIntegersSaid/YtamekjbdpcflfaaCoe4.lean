/-
  ql.ZZCoerce, ZZCoerce1; impl.Coerce and impl.CoerceTo of any two values. PRINTED BY wip/tpl/gen_coe4.py.
-/
import Derived.Test.YtamekjbdpcflfaaCoe3
import Derived.Test.YtamekjbdpcflfaaOut2
namespace Go.Proofs.Ytamekjbdpcflfaa
open Go.RowKit

set_option maxRecDepth 100000 in
set_option maxHeartbeats 1000000 in
theorem zzCoerce_any (x y : SV) (hx : x.wf) (hy : y.wf) (u v : Value) (w : World) (hu : Rep w x u) (hv : Rep w y v) : Calls Try.prog 36 #[u, v] w (CoPost x y w) := by
  have HC := Lib.hid (coerce_any x y hx hy u v w hu hv)
  clear hu hv hx hy
  go_enter Try.func36, Try.ntmps36
  go_wp2_with (go_at_call 55; refine HC.out.mono ?_; rintro e w1 ⟨a, b, u1, v1, rfl, h1, h2, ht, hb⟩)
  go_ret2
  exact ⟨a, b, u1, v1, rfl, h1, h2, ht, hb⟩

set_option maxRecDepth 100000 in
set_option maxHeartbeats 1000000 in
theorem zzCoerce1_any (x y : SV) (hx : x.wf) (u v : Value) (w : World) (hu : Rep w x u) (hv : Rep w y v) : Calls Try.prog 37 #[u, v] w (Co1Post x y w) := by
  have HC := Lib.hid (coerce1_any x y hx u v w hu hv)
  clear hu hv hx
  go_enter Try.func37, Try.ntmps37
  go_wp2_with (go_at_call 56; refine HC.out.mono ?_; rintro e w1 ⟨z, v1, rfl, h1, h2, h3, h4, hb⟩)
  go_ret
  exact ⟨z, v1, rfl, h1, h2, h3, h4, hb⟩

/-- impl.Coerce: what comes out are the two values that were brought together. -/
def ICoPost (K : Kd) (n u : Int) (f : Nat) (s : ByteArray) (K' : Kd) (n' u' : Int) (f' : Nat) (s' : ByteArray) (w : World) (e : Ending) (w' : World) : Prop :=
  ∃ x y a b g h, SVof K n u f s x ∧ SVof K' n' u' f' s' y ∧ Together x y a b ∧ FOut a g ∧ FOut b h ∧ e = .returned (.tuple #[.agg #[.string a.nm, .int .i64 a.oN, .int .u64 a.oU, .float .f64 g, .string a.oS], .agg #[.string b.nm, .int .i64 b.oN, .int .u64 b.oU, .float .f64 h, .string b.oS]]) ∧ Below w.heap.size w w'

def ICo1Post (K : Kd) (n u : Int) (f : Nat) (s : ByteArray) (K' : Kd) (n' u' : Int) (f' : Nat) (s' : ByteArray) (w : World) (e : Ending) (w' : World) : Prop :=
  ∃ x y a g, SVof K n u f s x ∧ SVof K' n' u' f' s' y ∧ a.wf ∧ (x.isLit = false → a = x) ∧ (∀ n q m, x = .iInt n → y = .int q m → fitI q n = true → a = .int q n) ∧ FOut a g ∧ e = .returned (.agg #[.string a.nm, .int .i64 a.oN, .int .u64 a.oU, .float .f64 g, .string a.oS]) ∧ Below w.heap.size w w'

theorem below_a3 (w : World) (a b c : Obj) : Below w.heap.size w (((w.alloc a).alloc b).alloc c) := (((Below.refl _ _).alloc (Nat.le_refl _) _).alloc (by simp) _).alloc (by simp; omega) _
theorem below_a4 (w : World) (a b c d : Obj) : Below w.heap.size w ((((w.alloc a).alloc b).alloc c).alloc d) := (below_a3 w a b c).alloc (by simp; omega) _
theorem below_set5 {B : Nat} {w w' : World} (h : Below B w w') {b : Nat} (hb : B ≤ b) (a0 a1 a2 a3 a4 : Value) :
    Below B w (((((w'.setCell ⟨b, 0, none⟩ a0).setCell ⟨b, 1, none⟩ a1).setCell ⟨b, 2, none⟩ a2).setCell ⟨b, 3, none⟩ a3).setCell ⟨b, 4, none⟩ a4) :=
  ((((h.setCell hb _).setCell hb _).setCell hb _).setCell hb _).setCell hb _

set_option maxRecDepth 100000 in
set_option maxHeartbeats 8000000 in
theorem implCoerceTo_any (k : ByteArray) (n u : Int) (f : Nat) (s : ByteArray) (k' : ByteArray) (n' u' : Int) (f' : Nat) (s' : ByteArray) (hr : Rng n u f) (hv : validB (Kd.of k.toList) n u f s = true) (hr' : Rng n' u' f') (hv' : validB (Kd.of k'.toList) n' u' f' s' = true) (w : World) :
    Calls Try.prog 25 #[.agg #[.string k, .int .i64 n, .int .u64 u, .float .f64 f, .string s], .agg #[.string k', .int .i64 n', .int .u64 u', .float .f64 f', .string s']] w (ICo1Post (Kd.of k.toList) n u f s (Kd.of k'.toList) n' u' f' s' w) := by
  have HI := Lib.hid (fun w => in_any k n u f s hr hv w)
  have HI' := Lib.hid (fun w => in_any k' n' u' f' s' hr' hv' w)
  have HW := Lib.hid (fun y (h : SVof (Kd.of k.toList) n u f s y) => toSV_wf hr hv h)
  have HW' := Lib.hid (fun y (h : SVof (Kd.of k'.toList) n' u' f' s' y) => toSV_wf hr' hv' h)
  clear hr hv hr' hv'
  go_enter Try.func25, Try.ntmps25
  go_wp2
  go_region_with (first | (go_at_call_of 29 (Value.agg #[.string k, .int .i64 n, .int .u64 u, .float .f64 f, .string s]); refine (HI.out _).mono ?_; rintro e w1 ⟨va, x, rfl, hrep0, hb1, hsv0⟩; have hrep := Lib.hid hrep0; have hsv := Lib.hid hsv0; clear hrep0 hsv0; obtain ⟨hc1, hf1⟩ := bcellD hb1; have hz1 : w.heap.size + 2 < w1.heap.size := (by have := hb1.size; (try simp at this); omega); have hy1 : w.heap.size + 1 < w1.heap.size := (by omega)) | (go_at_call_of 29 (Value.agg #[.string k', .int .i64 n', .int .u64 u', .float .f64 f', .string s']); refine (HI'.out _).mono ?_; rintro e w2 ⟨vb, y, rfl, hrep0, hb2, hsv0⟩; have hrep' := Lib.hid hrep0; have hsv' := Lib.hid hsv0; clear hrep0 hsv0; obtain ⟨hc2, hf2⟩ := bcell hb2; have hz2 : w.heap.size + 2 < w2.heap.size := (by have := hb2.size; (try simp at this); omega); have hy2 : w.heap.size + 1 < w2.heap.size := (by omega)) | (go_at_call 37; refine (zzCoerce1_any x y (HW.out x hsv.out) va vb _ (hrep.out.below (hb2.mono (by first | exact Nat.le_refl _ | omega | (simp; omega)))) hrep'.out).mono ?_; rintro e w3 ⟨a, va1, rfl, ha, hra0, hk, hi0, hb3⟩; have hra := Lib.hid hra0; have hi := Lib.hid hi0; have hk' := Lib.hid hk; have haw := Lib.hid ha; clear hra0 hi0 hk ha; obtain ⟨hc3, hf3⟩ := bcell hb3; have hz3 : w.heap.size + 2 < w3.heap.size := (by have := hb3.size; (try simp at this); omega); have hy3 : w.heap.size + 1 < w3.heap.size := (by omega)) | (go_at_call 32; refine (out_any a haw.out va1 _ hra.out).mono ?_; rintro e w4 ⟨g, rfl, hb4, hfo⟩; obtain ⟨hc4, hf4⟩ := bcell hb4; have hz4 : w.heap.size + 2 < w4.heap.size := (by have := hb4.size; (try simp at this); omega); have hy4 : w.heap.size + 1 < w4.heap.size := (by omega)))
  all_goals
    go_wp2
    exact bodyPost_ret (v := .agg #[.string a.nm, .int .i64 a.oN, .int .u64 a.oU, .float .f64 g, .string a.oS]) (by simp [results, go_sem, hc1, hc2, hc3, hc4, hz1, hz2, hz3]) rfl ⟨x, y, a, g, hsv.out, hsv'.out, haw.out, hk'.out, hi.out, hfo, rfl, below_set5 (up_below (up_below (up_below (up_below (below_a3 w _ _ _).drew (Nat.le_refl _) hb1) (Nat.le_refl _) hb2) (Nat.le_refl _) hb3) (Nat.le_refl _) hb4) (by omega) _ _ _ _ _⟩

set_option maxRecDepth 100000 in
set_option maxHeartbeats 8000000 in
theorem implCoerce_any (k : ByteArray) (n u : Int) (f : Nat) (s : ByteArray) (k' : ByteArray) (n' u' : Int) (f' : Nat) (s' : ByteArray) (hr : Rng n u f) (hv : validB (Kd.of k.toList) n u f s = true) (hr' : Rng n' u' f') (hv' : validB (Kd.of k'.toList) n' u' f' s' = true) (w : World) :
    Calls Try.prog 23 #[.agg #[.string k, .int .i64 n, .int .u64 u, .float .f64 f, .string s], .agg #[.string k', .int .i64 n', .int .u64 u', .float .f64 f', .string s']] w (ICoPost (Kd.of k.toList) n u f s (Kd.of k'.toList) n' u' f' s' w) := by
  have HI := Lib.hid (fun w => in_any k n u f s hr hv w)
  have HI' := Lib.hid (fun w => in_any k' n' u' f' s' hr' hv' w)
  have HW := Lib.hid (fun y (h : SVof (Kd.of k.toList) n u f s y) => toSV_wf hr hv h)
  have HW' := Lib.hid (fun y (h : SVof (Kd.of k'.toList) n' u' f' s' y) => toSV_wf hr' hv' h)
  clear hr hv hr' hv'
  go_enter Try.func23, Try.ntmps23
  go_wp2
  go_region_with (first | (go_at_call_of 29 (Value.agg #[.string k, .int .i64 n, .int .u64 u, .float .f64 f, .string s]); refine (HI.out _).mono ?_; rintro e w1 ⟨va, x, rfl, hrep0, hb1, hsv0⟩; have hrep := Lib.hid hrep0; have hsv := Lib.hid hsv0; clear hrep0 hsv0; obtain ⟨hc1, hf1⟩ := bcellD hb1; have hz1 : w.heap.size + 3 < w1.heap.size := (by have := hb1.size; (try simp at this); omega); have hy1 : w.heap.size + 2 < w1.heap.size := (by omega)) | (go_at_call_of 29 (Value.agg #[.string k', .int .i64 n', .int .u64 u', .float .f64 f', .string s']); refine (HI'.out _).mono ?_; rintro e w2 ⟨vb, y, rfl, hrep0, hb2, hsv0⟩; have hrep' := Lib.hid hrep0; have hsv' := Lib.hid hsv0; clear hrep0 hsv0; obtain ⟨hc2, hf2⟩ := bcell hb2; have hz2 : w.heap.size + 3 < w2.heap.size := (by have := hb2.size; (try simp at this); omega); have hy2 : w.heap.size + 2 < w2.heap.size := (by omega)) | (go_at_call 36; refine (zzCoerce_any x y (HW.out x hsv.out) (HW'.out y hsv'.out) va vb _ (hrep.out.below (hb2.mono (by first | exact Nat.le_refl _ | omega | (simp; omega)))) hrep'.out).mono ?_; rintro e w3 ⟨a, b, va1, vb1, rfl, hra0, hrb0, ht0, hb3⟩; have hra := Lib.hid hra0; have hrb := Lib.hid hrb0; have ht := Lib.hid ht0; clear hra0 hrb0 ht0; obtain ⟨hc3, hf3⟩ := bcell hb3; have hz3 : w.heap.size + 3 < w3.heap.size := (by have := hb3.size; (try simp at this); omega); have hy3 : w.heap.size + 2 < w3.heap.size := (by omega)))
  all_goals
    go_wp2_with (first | (go_at_call_of 32 va1; refine (out_any a ht.out.wa va1 _ hra.out).mono ?_; rintro e w4 ⟨g, rfl, hb4, hfo0⟩; have hfo := Lib.hid hfo0; clear hfo0; obtain ⟨hc4, hf4⟩ := bcell hb4; have hz4 : w.heap.size + 3 < w4.heap.size := (by have := hb4.size; (try simp at this); omega); have hy4 : w.heap.size + 2 < w4.heap.size := (by omega)) | (go_at_call_of 32 vb1; refine (out_any b ht.out.wb vb1 _ (hrb.out.below (hb4.mono (by first | exact Nat.le_refl _ | omega | (simp; omega))))).mono ?_; rintro e w5 ⟨h, rfl, hb5, hfo5⟩; have hfo' := Lib.hid hfo5; clear hfo5; obtain ⟨hc5, hf5⟩ := bcell hb5; have hz5 : w.heap.size + 3 < w5.heap.size := (by have := hb5.size; (try simp at this); omega); have hy5 : w.heap.size + 2 < w5.heap.size := (by omega)))
    exact bodyPost_ret (v := .tuple #[.agg #[.string a.nm, .int .i64 a.oN, .int .u64 a.oU, .float .f64 g, .string a.oS], .agg #[.string b.nm, .int .i64 b.oN, .int .u64 b.oU, .float .f64 h, .string b.oS]]) (by simp [results, go_sem, hc1, hc2, hc3, hc4, hc5, hz1, hz2, hz3, hz4, hy1, hy2, hy3, hy4]) rfl ⟨x, y, a, b, g, h, hsv.out, hsv'.out, ht.out, hfo.out, hfo'.out, rfl, below_set5 (below_set5 (up_below (up_below (up_below (up_below (up_below (below_a4 w _ _ _ _).drew (Nat.le_refl _) hb1) (Nat.le_refl _) hb2) (Nat.le_refl _) hb3) (Nat.le_refl _) hb4) (Nat.le_refl _) hb5) (by omega) _ _ _ _ _) (by omega) _ _ _ _ _⟩

end Go.Proofs.Ytamekjbdpcflfaa
