/-
  impl.Convert of any valid value that is not NULL, to each type. It needs that the error of division by zero lies in its variable. PRINTED BY wip/tpl/gen_cvk.py.
-/
import Derived.Test.YtiijcmdfbgoafaaDoorCvj
namespace Go.Proofs.YtiijcmdfbgoafaaDoor
open Go.RowKit

/-- What is handed back by ql.convert. -/
def CvQ (k : Kd) (y : SV) (u r : Value) (w : World) : Prop :=
  (∃ z, CvOf k y z ∧ z.wf ∧ z.kd = k ∧ z.small ∧ Rep w z u ∧ r = .nilIface) ∨ (CvCan k y = false ∧ u = .nilIface ∧ ∃ p, r = .iface 101 (.pointer (some p)) ∧ Er w p)
theorem CvQ.below {k : Kd} {y : SV} {u r : Value} {w w' : World} (h : CvQ k y u r w) (hb : Below w.heap.size w w') : CvQ k y u r w' := by
  rcases h with ⟨z, h1, h2, h3, h4, h5, h6⟩ | ⟨h1, h2, p, h3, h4⟩
  · exact .inl ⟨z, h1, h2, h3, h4, h5.below hb, h6⟩
  · exact .inr ⟨h1, h2, p, h3, h4.of hb⟩
def CvSplit (k : Kd) (y : SV) (w : World) (e : Ending) (w' : World) : Prop := ∃ u r, e = .returned (.tuple #[u, r]) ∧ Below w.heap.size w w' ∧ CvQ k y u r w'
theorem CvPost.split {k : Kd} {y : SV} {w : World} {e : Ending} {w' : World} (h : CvPost k y w e w') : CvSplit k y w e w' := by
  rcases h with ⟨z, v, h1, h2, h3, h4, h5, he, hb⟩ | ⟨h1, p, he, hE, hb⟩
  · exact ⟨_, _, he, hb, .inl ⟨z, h1, h2, h3, h4, h5, rfl⟩⟩
  · exact ⟨_, _, he, hb, .inr ⟨h1, rfl, p, rfl, hE⟩⟩

theorem cvt_any (k : Kd) (hk : k.col = true) (y : SV) (hy : y.wf) (hs : y.small) (hn : y ≠ .null) (v : Value) (w : World) (h : Rep w y v) : Calls Tryd.prog 57 #[v, .int .i64 k.ty] w (CvSplit k y w) := by
  cases k with
  | bool => exact (cvt_bool y hy hs hn v w h).mono fun _ _ h => h.split
  | f32 => exact (cvt_f32 y hy hs hn v w h).mono fun _ _ h => h.split
  | f64 => exact (cvt_f64 y hy hs hn v w h).mono fun _ _ h => h.split
  | str => exact (cvt_str y hy hs hn v w h).mono fun _ _ h => h.split
  | blob => exact (cvt_blob y hy hs hn v w h).mono fun _ _ h => h.split
  | int q =>
    cases q
    case i8 => exact (cvt_i8 y hy hs hn v w h).mono fun _ _ h => h.split
    case i16 => exact (cvt_i16 y hy hs hn v w h).mono fun _ _ h => h.split
    case i32 => exact (cvt_i32 y hy hs hn v w h).mono fun _ _ h => h.split
    case i64 => exact (cvt_i64 y hy hs hn v w h).mono fun _ _ h => h.split
    case u8 => exact (cvt_u8 y hy hs hn v w h).mono fun _ _ h => h.split
    case u16 => exact (cvt_u16 y hy hs hn v w h).mono fun _ _ h => h.split
    case u32 => exact (cvt_u32 y hy hs hn v w h).mono fun _ _ h => h.split
    case u64 => exact (cvt_u64 y hy hs hn v w h).mono fun _ _ h => h.split
  | _ => cases hk

set_option maxRecDepth 100000 in
set_option maxHeartbeats 1000000 in
theorem zzCv_any (k : Kd) (hk : k.col = true) (y : SV) (hy : y.wf) (hs : y.small) (hn : y ≠ .null) (v : Value) (w : World) (h : Rep w y v) : Calls Tryd.prog 47 #[v, .int .i64 k.ty] w (CvSplit k y w) := by
  have H := Lib.hid (cvt_any k hk y hy hs hn v w h)
  clear h hk hy hs hn
  go_enter Tryd.func47, Tryd.ntmps47
  go_wp2_with (go_at_call 57; refine H.out.mono ?_; rintro e w1 ⟨u, r, rfl, hb1, hq⟩; have HQ := Lib.hid hq; clear hq)
  go_ret2
  exact ⟨u, r, rfl, hb1, HQ.out⟩

/-- What comes out of a conversion. -/
def TlQ (k : Kd) (y : SV) (kk : ByteArray) (nn uu : Int) (gg : Nat) (ss : ByteArray) (c : Int) : Prop :=
  (∃ z, CvOf k y z ∧ z.wf ∧ z.kd = k ∧ z.small ∧ FOut z gg ∧ kk = z.nm ∧ nn = z.oN ∧ uu = z.oU ∧ ss = z.oS ∧ c = 0) ∨ (CvCan k y = false ∧ c ≠ 0)
def TlPost (k : Kd) (y : SV) (w : World) (e : Ending) (w' : World) : Prop :=
  ∃ kk nn uu gg ss c, e = .returned (.tuple #[.agg #[.string kk, .int .i64 nn, .int .u64 uu, .float .f64 gg, .string ss], .int .i64 c]) ∧ Below w.heap.size w w' ∧ TlQ k y kk nn uu gg ss c

theorem told_q (k : Kd) (y : SV) (u r : Value) (a : Addr) (w : World) (hg : Has w a) (h : CvQ k y u r w) : Calls Tryd.prog 28 #[u, r] w (TlPost k y w) := by
  rcases h with ⟨z, h1, h2, h3, h4, h5, rfl⟩ | ⟨h1, rfl, p, rfl, hE⟩
  · exact (told_ok z h2 u w h5).mono fun e w' ⟨g, hfo, he, hb⟩ => ⟨_, _, _, _, _, _, he, hb, .inl ⟨z, h1, h2, h3, h4, hfo, rfl, rfl, rfl, rfl, rfl⟩⟩
  · exact (told_err _ p a w hg hE).mono fun e w' ⟨c, he, hc, hb⟩ => ⟨_, _, _, _, _, _, he, hb, .inr ⟨h1, hc⟩⟩

set_option maxRecDepth 100000 in
set_option maxHeartbeats 1000000 in
theorem icv_any (k : Kd) (hk : k.col = true) (ht : (k.ty == 0) = false) (y : SV) (hy : y.wf) (hs : y.small) (hn : y ≠ .null) (v : Value) (a : Addr) (w : World) (hg : Has w a) (h : Rep w y v) : Calls Tryd.prog 32 #[v, .int .i64 k.ty] w (TlPost k y w) := by
  have HZ := Lib.hid (fun w' (hb : Below w.heap.size w w') => zzCv_any k hk y hy hs hn v w' (h.below hb))
  have HT := Lib.hid (fun w' (hb : Below w.heap.size w w') u r hq => told_q k y u r a w' (hg.of hb) hq)
  clear h hk hy hs hn hg
  go_enter Tryd.func32, Tryd.ntmps32
  go_wp2_with (first | (go_at_call 47; refine (HZ.out _ (by repeat (first | exact Below.refl _ _ | exact (Below.refl _ _).alloc (Nat.le_refl _) _ | refine Below.drew ?_ | refine below_drewN ?_ _ | refine Below.setCell ?_ (by first | omega | (simp; omega) | simp) _ | refine Below.alloc ?_ (by first | omega | (simp; omega) | simp) _ | refine up_below ?_ (Nat.le_refl _) (by assumption)))).mono ?_; rintro e w1 ⟨u, r, rfl, hb1, hq⟩; have HQ := Lib.hid hq; clear hq; obtain ⟨hc1, hf1⟩ := bcell hb1; have hz1 : w.heap.size < w1.heap.size := (by have := hb1.size; (try simp at this); omega)) | (go_at_call 28; refine (HT.out _ (by repeat (first | exact Below.refl _ _ | exact (Below.refl _ _).alloc (Nat.le_refl _) _ | refine Below.drew ?_ | refine below_drewN ?_ _ | refine Below.setCell ?_ (by first | omega | (simp; omega) | simp) _ | refine Below.alloc ?_ (by first | omega | (simp; omega) | simp) _ | refine up_below ?_ (Nat.le_refl _) (by assumption))) _ _ (by first | exact HQ.out | exact HQ.out.below (by repeat (first | exact Below.refl _ _ | exact (Below.refl _ _).alloc (Nat.le_refl _) _ | refine Below.drew ?_ | refine below_drewN ?_ _ | refine Below.setCell ?_ (by first | omega | (simp; omega) | simp) _ | refine Below.alloc ?_ (by first | omega | (simp; omega) | simp) _ | refine up_below ?_ (Nat.le_refl _) (by assumption))))).mono ?_; rintro e w2 ⟨kk, nn, uu, gg, ss, c, rfl, hb2, hq⟩; have HR := Lib.hid hq; clear hq; obtain ⟨hc2, hf2⟩ := bcell hb2; have hz2 : w.heap.size < w2.heap.size := (by have := hb2.size; (try simp at this); omega)))
  exact bodyPost_ret (v := .tuple #[.agg #[.string kk, .int .i64 nn, .int .u64 uu, .float .f64 gg, .string ss], .int .i64 c]) (by simp [results, go_sem, hc1, hc2, hz1]) rfl ⟨kk, nn, uu, gg, ss, c, rfl, by repeat (first | exact Below.refl _ _ | exact (Below.refl _ _).alloc (Nat.le_refl _) _ | refine Below.drew ?_ | refine below_drewN ?_ _ | refine Below.setCell ?_ (by first | omega | (simp; omega) | simp) _ | refine Below.alloc ?_ (by first | omega | (simp; omega) | simp) _ | refine up_below ?_ (Nat.le_refl _) (by assumption)), HR.out⟩

theorem col_ty {k : Kd} (hk : k.col = true) : (k.ty == 0) = false := by
  cases k with
  | int q => cases q <;> rfl
  | _ => first | rfl | cases hk

/-- impl.Convert's end: a value of the type, or an error. -/
def CnvPost (kd kd2 : Kd) (n u : Int) (f : Nat) (s : ByteArray) (w : World) (e : Ending) (w' : World) : Prop :=
  ∃ kk nn uu gg ss c, e = .returned (.tuple #[.agg #[.string kk, .int .i64 nn, .int .u64 uu, .float .f64 gg, .string ss], .int .i64 c]) ∧ Below w.heap.size w w' ∧ ∃ y, SVof kd n u f s y ∧ TlQ kd2 y kk nn uu gg ss c

set_option maxRecDepth 100000 in
set_option maxHeartbeats 1000000 in
theorem implCv_any (k : ByteArray) (n u : Int) (f : Nat) (s : ByteArray) (hr : Rng n u f) (hv : validB (Kd.of k.toList) n u f s = true) (hk0 : Kd.of k.toList ≠ .null) (k2 : ByteArray) (hk2 : (Kd.of k2.toList).col = true) (a : Addr) (w : World) (hg : Has w a) :
    Calls Tryd.prog 15 #[.agg #[.string k, .int .i64 n, .int .u64 u, .float .f64 f, .string s], .string k2] w (CnvPost (Kd.of k.toList) (Kd.of k2.toList) n u f s w) := by
  have HI := Lib.hid (fun w => in_any k n u f s hr hv w)
  have HT := Lib.hid (fun w => zzType_any k2 hk2 w)
  have HC := Lib.hid (fun w' (hb : Below w.heap.size w w') y v (h : Rep w' y v) (hsv : SVof (Kd.of k.toList) n u f s y) => icv_any (Kd.of k2.toList) hk2 (col_ty hk2) y (toSV_wf hr hv hsv) (toSV_small hv hsv) (fun h0 => by have := toSV_kd hv hsv; rw [h0] at this; exact hk0 this.symm) v a w' (hg.of hb) h)
  clear hr hv hk0 hk2 hg
  generalize Kd.of k2.toList = kd2 at HT HC ⊢
  generalize Kd.of k.toList = kd at HI HC ⊢
  go_enter Tryd.func15, Tryd.ntmps15
  go_wp2_with (first | (go_at_call 30; refine (HI.out _).mono ?_; rintro e w1 ⟨v, y, rfl, hrep, hb1, hsv⟩; have HRp := Lib.hid hrep; have HSv := Lib.hid hsv; clear hrep hsv; obtain ⟨hc1, hf1⟩ := bcell hb1; have hz1 : w.heap.size < w1.heap.size := (by have := hb1.size; (try simp at this); omega); have hy1 : w.heap.size + 1 < w1.heap.size := (by have := hb1.size; (try simp at this); omega)) | (go_at_call 27; refine (HT.out _).mono ?_; rintro e w2 ⟨rfl, rfl⟩) | (go_at_call 32; refine (HC.out _ (by repeat (first | exact Below.refl _ _ | exact (Below.refl _ _).alloc (Nat.le_refl _) _ | refine Below.drew ?_ | refine below_drewN ?_ _ | refine Below.setCell ?_ (by first | omega | (simp; omega) | simp) _ | refine Below.alloc ?_ (by first | omega | (simp; omega) | simp) _ | refine up_below ?_ (Nat.le_refl _) (by assumption))) _ _ (by first | exact HRp.out | exact HRp.out.below (by repeat (first | exact Below.refl _ _ | exact (Below.refl _ _).alloc (Nat.le_refl _) _ | refine Below.drew ?_ | refine below_drewN ?_ _ | refine Below.setCell ?_ (by first | omega | (simp; omega) | simp) _ | refine Below.alloc ?_ (by first | omega | (simp; omega) | simp) _ | refine up_below ?_ (Nat.le_refl _) (by assumption)))) HSv.out).mono ?_; rintro e w3 ⟨kk, nn, uu, gg, ss, c, rfl, hb3, hq⟩; have HR := Lib.hid hq; clear hq; obtain ⟨hc3, hf3⟩ := bcell hb3; have hz3 : w.heap.size < w3.heap.size := (by have := hb3.size; (try simp at this); omega); have hy3 : w.heap.size + 1 < w3.heap.size := (by have := hb3.size; (try simp at this); omega)))
  exact bodyPost_ret (v := .tuple #[.agg #[.string kk, .int .i64 nn, .int .u64 uu, .float .f64 gg, .string ss], .int .i64 c]) (by simp [results, go_sem, hc1, hc3, hy1] <;> exact ⟨rfl, rfl, rfl, rfl⟩) rfl ⟨kk, nn, uu, gg, ss, c, rfl, below_st5 (up_below (up_below (below_b2 w _ _) (Nat.le_refl _) hb1) (Nat.le_refl _) hb3) (by omega) _ _ _ _ _, y, HSv.out, HR.out⟩

end Go.Proofs.YtiijcmdfbgoafaaDoor
