/-
  ql.collate1 where the reference says the order of two values; ql.collate where it says that of two lists. PRINTED BY wip/tpl/gen_sc7.py.
-/
import Derived.Test.YtiijcmdfbgoafaaSc6
namespace Go.Proofs.Ytiijcmdfbgoafaa
open Go.RowKit

theorem order_up {x y : Nat} (hx : (Ieee.single.read x).isNaN = false) (hy : (Ieee.single.read y).isNaN = false) : Ieee.double.order (Flt.up x) (Flt.up y) = Ieee.single.order x y := by
  rw [Flt.order64, Flt.order32, (Flt.up_key hx).1, (Flt.up_key hy).1]

theorem fl_coll {K : Kd} {n u : Int} {f : Nat} {s : ByteArray} {n' u' : Int} {f' : Nat} {s' : ByteArray} (h : concB K n u f s = true) (h' : concB K n' u' f' s' = true) (hf : K.vFlt = true) :
    (toSV K n u f s).coll (toSV K n' u' f' s') = three (Ieee.double.order f f' == some .lt) (Ieee.double.order f f' == some .eq) := by
  unfold concB at h h'
  simp only [Bool.and_eq_true, Bool.not_eq_true'] at h h'
  obtain ⟨⟨v, i⟩, hn⟩ := h
  obtain ⟨⟨v', _⟩, hn'⟩ := h'
  cases K with
  | f64 => rfl
  | f32 =>
    have hd : (Ieee.double.read f).isNaN = false := by rw [numB_nan] at hn; simpa using hn
    have hd' : (Ieee.double.read f').isNaN = false := by rw [numB_nan] at hn'; simpa using hn'
    simp only [validB, single64, hn, hn', Bool.and_eq_true, beq_iff_eq, Bool.not_true, Bool.false_or] at v v'
    have e := order_up (down_num hd) (down_num hd')
    rw [v.2.1, v'.2.1] at e
    rw [e]
    rfl
  | iFloat => exact absurd i (by decide)
  | _ => exact absurd hf (by simp [Kd.vFlt])

theorem order_num {f f' : Nat} (h : numB f = true) (h' : numB f' = true) : ∃ o, Ieee.double.order f f' = some o := by
  have e := key64_some (x := f) (by simpa [numB] using h)
  have e' := key64_some (x := f') (by simpa [numB] using h')
  rw [Flt.order64, e, e']
  exact ⟨_, rfl⟩

set_option maxRecDepth 100000 in
set_option maxHeartbeats 1000000 in
theorem con_iInt (p : Value) (w : World) : Calls Try.prog 35 #[.iface 73 p, .nilIface] w fun e w' => e = .returned (.int .i64 1) ∧ w = w' := by
  go_enter Try.func35, Try.ntmps35
  go_wp2
  go_ret
  exact ⟨rfl, rfl⟩

set_option maxRecDepth 100000 in
set_option maxHeartbeats 1000000 in
theorem con_iRune (p : Value) (w : World) : Calls Try.prog 35 #[.iface 72 p, .nilIface] w fun e w' => e = .returned (.int .i64 1) ∧ w = w' := by
  go_enter Try.func35, Try.ntmps35
  go_wp2
  go_ret
  exact ⟨rfl, rfl⟩

set_option maxRecDepth 100000 in
set_option maxHeartbeats 1000000 in
theorem con_iUint (p : Value) (w : World) : Calls Try.prog 35 #[.iface 71 p, .nilIface] w fun e w' => e = .returned (.int .i64 1) ∧ w = w' := by
  go_enter Try.func35, Try.ntmps35
  go_wp2
  go_ret
  exact ⟨rfl, rfl⟩

set_option maxRecDepth 100000 in
set_option maxHeartbeats 1000000 in
theorem con_iFloat (p : Value) (w : World) : Calls Try.prog 35 #[.iface 74 p, .nilIface] w fun e w' => e = .returned (.int .i64 1) ∧ w = w' := by
  go_enter Try.func35, Try.ntmps35
  go_wp2
  go_ret
  exact ⟨rfl, rfl⟩

theorem rep_nil {w : World} {y : SV} (h : Rep w y .nilIface) : y = .null := by
  cases y with
  | null => rfl
  | blob l => obtain ⟨a, cap, h, _⟩ := h; cases h
  | _ => cases h

theorem is_null {x : VV} (hg : x.good) (h : x.is .null) : x.nul = true := by
  have hv := hg.2
  unfold VV.is SVof at h
  unfold VV.nul
  cases hk : Kd.of x.k.toList with
  | null =>
    rw [Kd.of_lit _ hk (by decide)]
    rfl
  | other => rw [hk] at hv; cases hv
  | _ =>
    rw [hk] at h
    split at h
    · obtain ⟨z, h, _⟩ := h; cases h
    · cases h

theorem nul_is {x : VV} {y : SV} (hn : x.nul = true) (h : x.is y) : y = .null := by
  have hk : x.k.toList = [] := List.isEmpty_iff.1 hn
  unfold VV.is at h
  rw [hk] at h
  unfold SVof at h
  rw [if_neg (fun h => by cases h.1)] at h
  exact h

theorem ok_conc {x y : VV} (hx : x.good) (hy : y.good) (h : scOk x y = true) : x.conc = true ∧ y.conc = true ∧ x.k.toList = y.k.toList ∧ (Kd.of x.k.toList).vOrd = true := by
  unfold scOk at h
  simp only [Bool.and_eq_true, beq_iff_eq] at h
  obtain ⟨⟨⟨h1, h2⟩, h3⟩, h4⟩ := h
  have hi : ∀ K : Kd, K.vOrd = true → K.ideal = false := fun K hK => by cases K <;> first | rfl | cases hK
  refine ⟨?_, ?_, h1, h2⟩
  · unfold VV.conc concB
    rw [hx.2, hi _ h2, h3]
    rfl
  · unfold VV.conc concB
    rw [hy.2, ← h1, hi _ h2, h4]
    rfl

theorem int_cmp (n m : Int) : three (decide (n < m)) (n == m) = ord2 (decide (n < m)) (decide (m < n)) := by
  unfold three ord2
  by_cases h1 : n < m
  · simp [h1]
  · by_cases h2 : m < n
    · have h3 : ¬ n = m := by omega
      simp [h1, h2, h3]
    · have h3 : n = m := by omega
      simp [h3]

theorem coll_cmp {x y : VV} (hx : x.conc = true) (hy : y.conc = true) (hk : x.k.toList = y.k.toList) (ho : (Kd.of x.k.toList).vOrd = true) : x.sv.coll y.sv = scCmp x y := by
  unfold VV.conc at hx hy
  unfold VV.sv scCmp
  rw [← hk] at hy ⊢
  generalize Kd.of x.k.toList = K at *
  cases K with
  | int q =>
    show SV.coll (.int q _) (.int q _) = _
    rw [coll_int_same]
    cases hq : q.signed with
    | true =>
      simp only [Kd.vSgn, hq, if_true]
      exact int_cmp _ _
    | false =>
      simp only [Kd.vSgn, Kd.vUns, hq, Bool.not_false, Bool.false_eq_true, if_false, if_true]
      exact int_cmp _ _
  | f32 =>
    rw [fl_coll hx hy rfl]
    simp only [Kd.vSgn, Kd.vUns, Kd.vFlt, Bool.false_eq_true, if_false, if_true]
    unfold concB at hx hy
    simp only [Bool.and_eq_true] at hx hy
    obtain ⟨o, e⟩ := order_num hx.2 hy.2
    show three (Ieee.double.order x.f y.f == some .lt) _ = ord2 (Ieee.double.order x.f y.f == some .lt) (Ieee.double.order x.f y.f == some .gt)
    rw [e]
    cases o <;> rfl
  | f64 =>
    rw [fl_coll hx hy rfl]
    simp only [Kd.vSgn, Kd.vUns, Kd.vFlt, Bool.false_eq_true, if_false, if_true]
    unfold concB at hx hy
    simp only [Bool.and_eq_true] at hx hy
    obtain ⟨o, e⟩ := order_num hx.2 hy.2
    show three (Ieee.double.order x.f y.f == some .lt) _ = ord2 (Ieee.double.order x.f y.f == some .lt) (Ieee.double.order x.f y.f == some .gt)
    rw [e]
    cases o <;> rfl
  | str =>
    simp only [Kd.vSgn, Kd.vUns, Kd.vFlt, Bool.false_eq_true, if_false]
    show bytesOrd x.s.toList y.s.toList = _
    rw [ByteArray.toList_eq, ByteArray.toList_eq]
  | blob => rfl
  | _ => cases ho

theorem con_any {w : World} {y : SV} {u : Value} (h : Rep w y u) (hn : y ≠ .null) : Calls Try.prog 35 #[u, .nilIface] w (ColP 1 w) := by
  cases y with
  | null => exact absurd rfl hn
  | bool b => obtain rfl : u = _ := h; exact colP_of (con_bool _ w)
  | f32 b => obtain rfl : u = _ := h; exact colP_of (con_f32 _ w)
  | f64 b => obtain rfl : u = _ := h; exact colP_of (con_f64 _ w)
  | str b => obtain rfl : u = _ := h; exact colP_of (con_str _ w)
  | blob l => obtain ⟨a, cap, rfl, _⟩ := h; exact colP_of (con_blob _ w)
  | iInt b => obtain rfl : u = _ := h; exact colP_of (con_iInt _ w)
  | iRune b => obtain rfl : u = _ := h; exact colP_of (con_iRune _ w)
  | iUint b => obtain rfl : u = _ := h; exact colP_of (con_iUint _ w)
  | iFloat b => obtain rfl : u = _ := h; exact colP_of (con_iFloat _ w)
  | int q n =>
    obtain rfl : u = _ := h
    cases q with
    | i8 => exact colP_of (con_i8 _ w)
    | i16 => exact colP_of (con_i16 _ w)
    | i32 => exact colP_of (con_i32 _ w)
    | i64 => exact colP_of (con_i64 _ w)
    | u8 => exact colP_of (con_u8 _ w)
    | u16 => exact colP_of (con_u16 _ w)
    | u32 => exact colP_of (con_u32 _ w)
    | u64 => exact colP_of (con_u64 _ w)

theorem col1_said {x y : VV} {sx sy : SV} {u v : Value} {w : World} (hx : x.good) (hy : y.good) (ix : x.is sx) (iy : y.is sy) (hu : Rep w sx u) (hv : Rep w sy v) (h : (scVal x y).2 = true) :
    Calls Try.prog 35 #[u, v] w (ColP (scVal x y).1 w) := by
  unfold scVal at h ⊢
  cases e1 : x.nul with
  | true =>
    obtain rfl := nul_is e1 ix
    obtain rfl : u = .nilIface := hu
    cases e2 : y.nul with
    | true =>
      obtain rfl := nul_is e2 iy
      obtain rfl : v = .nilIface := hv
      exact colP_of (con_null w)
    | false =>
      rcases rep_form hv with rfl | ⟨t, z, rfl⟩
      · obtain rfl := rep_nil hv
        rw [is_null hy iy] at e2
        cases e2
      · exact colP_of (cox_null _ _ w)
  | false =>
    cases e2 : y.nul with
    | true =>
      obtain rfl := nul_is e2 iy
      obtain rfl : v = .nilIface := hv
      exact con_any hu (fun h0 => by subst h0; rw [is_null hx ix] at e1; cases e1)
    | false =>
      cases e3 : scOk x y with
      | false => rw [e1, e2, e3] at h; cases h
      | true =>
        obtain ⟨c1, c2, hk, ho⟩ := ok_conc hx hy e3
        obtain ⟨r1, p1⟩ := rep_conc c1 ix hu
        obtain ⟨r2, p2⟩ := rep_conc c2 iy hv
        have := coll1_any x.sv y.sv p1 p2 u v w r1 r2
        rw [coll_cmp c1 c2 hk ho] at this
        exact this

end Go.Proofs.Ytiijcmdfbgoafaa
