/-
  What comes out of a maximum: it is one of the values, and none is above it. Plain data.
-/
import Derived.Test.YtiijcmdfbgoafaaDoorBe
import Derived.Test.YtiijcmdfbgoafaaDoorBk
import Derived.Test.YtiijcmdfbgoafaaDoorWo
namespace Go.Proofs.YtiijcmdfbgoafaaDoor
open Go.RowKit

theorem order_up' {x y : Nat} (hx : (Ieee.single.read x).isNaN = false) (hy : (Ieee.single.read y).isNaN = false) : Ieee.double.order (Flt.up x) (Flt.up y) = Ieee.single.order x y := by
  rw [Flt.order64, Flt.order32, (Flt.up_key hx).1, (Flt.up_key hy).1]

theorem conc_num {x : VV} (h : x.conc = true) : (Ieee.double.read x.f).isNaN = false := by
  unfold VV.conc concB at h
  simp only [Bool.and_eq_true] at h
  have := h.2
  rw [numB_nan] at this
  simpa using this

theorem three_le {a b : Bool} (h : three a b ≤ 0) : a = true ∨ b = true := by
  unfold three at h
  cases a <;> cases b <;> simp_all

theorem gt_of_three {o : Option Ordering} (h : three (o == some .lt) (o == some .eq) ≤ 0) : (o == some .gt) = false := by
  rcases o with _ | o
  · rfl
  · cases o <;> first | rfl | exact absurd h (by decide)

theorem num_of32 {q : Nat} (h : Ieee.single.order q q = some .eq) : (Ieee.single.read q).isNaN = false := by
  cases hd : Ieee.single.read q with
  | nan s t => unfold Ieee.Format.order at h; rw [hd] at h; cases h
  | infinity s => rfl
  | number s m p => rfl
theorem zero_num : (Ieee.double.read 0).isNaN = false := by decide +kernel

theorem order_zero : Ieee.double.order 0 0 = some .eq := by decide +kernel

theorem less_flip {x y : List UInt8} (h : bytesOrd x y ≤ 0) : Op.bytesLess y x = false := by
  rcases bytesOrd_cases x y with ⟨_, h2⟩ | ⟨_, rfl⟩ | ⟨h1, _⟩
  · cases h3 : Op.bytesLess y x with
    | false => rfl
    | true =>
      have := bytesLess_trans h2 h3
      rw [bytesLess_irrefl] at this
      cases this
  · exact bytesLess_irrefl _
  · omega

set_option maxRecDepth 100000 in
/-- Of two values of one type, the first not above the second by the program's order: none of its fields is. -/
theorem not_above {x z : VV} (hx : x.conc = true) (hz : z.conc = true) (hk : Kd.of x.k.toList = Kd.of z.k.toList) (ha : z.sv.agg = true) (h : x.sv.coll z.sv ≤ 0) :
    NotAbove x.n x.u x.f x.s z.n z.u z.f z.s := by
  have nx := conc_num hx
  have nz := conc_num hz
  have vx := conc_valid hx
  have vz := conc_valid hz
  unfold VV.sv at h ha
  rw [hk] at h vx
  have irr := bytesLess_irrefl []
  have zf : ∀ {f : Nat}, (Ieee.double.read f).isNaN = false → bitsV f = 0 → f = 0 := fun hn hb => by rw [bitsV_num hn] at hb; exact hb
  have fin : ∀ {f g : Nat}, f = 0 → g = 0 → (FloatKind.f64.format.order f g == some .gt) = false := fun h1 h2 => by subst h1 h2; show (Ieee.double.order 0 0 == some .gt) = false; rw [order_zero]; rfl
  have emp : ∀ {s t : ByteArray}, s.toList = [] → t.toList = [] → Op.bytesLess t.toList s.toList = false := fun h1 h2 => by rw [h1, h2]; exact irr
  generalize Kd.of z.k.toList = K at h ha vx vz
  cases K with
  | int q =>
    have h' : three (decide ((if q.signed = true then x.n else x.u) < (if q.signed = true then z.n else z.u))) ((if q.signed = true then x.n else x.u) == (if q.signed = true then z.n else z.u)) ≤ 0 := by
      have h2 := h
      simp only [toSV, SV.coll, if_true] at h2
      exact h2
    have hle : (if q.signed = true then x.n else x.u) ≤ (if q.signed = true then z.n else z.u) := by
      rcases three_le h' with h3 | h3
      · exact Int.le_of_lt (of_decide_eq_true h3)
      · exact Int.le_of_eq (by simpa using h3)
    cases q <;> simp only [validB, zeros, Bool.and_eq_true, beq_iff_eq, List.isEmpty_iff] at vx vz
    case i8 | i16 | i32 | i64 => exact ⟨hle, by rw [vx.1.1, vz.1.1]; exact Int.le_refl _, fin (zf nx vx.1.2.1) (zf nz vz.1.2.1), emp vx.1.2.2 vz.1.2.2⟩
    case u8 | u16 | u32 => exact ⟨by rw [vx.1.1, vz.1.1]; exact Int.le_refl _, hle, fin (zf nx vx.1.2.1) (zf nz vz.1.2.1), emp vx.1.2.2 vz.1.2.2⟩
    case u64 => exact ⟨by rw [vx.1, vz.1]; exact Int.le_refl _, hle, fin (zf nx vx.2.1) (zf nz vz.2.1), emp vx.2.2 vz.2.2⟩
  | f32 =>
    have h' : three (Ieee.single.order (Flt.down x.f) (Flt.down z.f) == some .lt) (Ieee.single.order (Flt.down x.f) (Flt.down z.f) == some .eq) ≤ 0 := h
    have ex : numB x.f = true := by rw [numB_nan, nx]; rfl
    have ez : numB z.f = true := by rw [numB_nan, nz]; rfl
    simp only [validB, single64, ex, ez, Bool.and_eq_true, beq_iff_eq, Bool.not_true, Bool.false_or, List.isEmpty_iff] at vx vz
    have e := order_up' (down_num nx) (down_num nz)
    rw [vx.2.1, vz.2.1] at e
    rw [← e] at h'
    exact ⟨by rw [vx.1.1.1, vz.1.1.1]; exact Int.le_refl _, by rw [vx.1.1.2, vz.1.1.2]; exact Int.le_refl _, gt_of_three h', emp vx.1.2 vz.1.2⟩
  | f64 =>
    have h' : three (Ieee.double.order x.f z.f == some .lt) (Ieee.double.order x.f z.f == some .eq) ≤ 0 := h
    simp only [validB, Bool.and_eq_true, beq_iff_eq, List.isEmpty_iff] at vx vz
    exact ⟨by rw [vx.1.1, vz.1.1]; exact Int.le_refl _, by rw [vx.1.2, vz.1.2]; exact Int.le_refl _, gt_of_three h', emp vx.2 vz.2⟩
  | str =>
    have h' : bytesOrd x.s.toList z.s.toList ≤ 0 := h
    simp only [validB, Bool.and_eq_true, beq_iff_eq] at vx vz
    exact ⟨by rw [vx.1.1.1, vz.1.1.1]; exact Int.le_refl _, by rw [vx.1.1.2, vz.1.1.2]; exact Int.le_refl _, fin (zf nx vx.1.2) (zf nz vz.1.2), less_flip h'⟩
  | _ => exact absurd ha (by simp [toSV, SV.agg])

/-- What comes out, as fields. -/
def outV (y : SV) (g : Nat) : VV := ⟨y.nm, y.oN, y.oU, g, y.oS⟩
def VV.same (x z : VV) : Bool := sameB x.k x.n x.u x.f x.s z.k z.n z.u z.f z.s
def nulV : VV := ⟨⟨#[]⟩, 0, 0, 0, ⟨#[]⟩⟩

/-- All of one type that a maximum takes. -/
def Alike (l : List VV) : Prop := AggL l ∧ ∀ x ∈ nonN l, ∀ z ∈ nonN l, Kd.of x.k.toList = Kd.of z.k.toList

/-- One of the values, and none above it. -/
structure Top (m : List VV) (v : VV) : Prop where
  no : m = [] → v = nulV
  is : m ≠ [] → ∃ x ∈ m, x.same v = true
  top : ∀ x ∈ m, NotAbove x.n x.u x.f x.s v.n v.u v.f v.s

theorem mem_nonN {l : List VV} {x : VV} : x ∈ nonN l ↔ x ∈ l ∧ x.isNull = false := by
  unfold nonN
  simp

theorem top_of {l : List VV} (hl : Alike l) {g : Nat} (hg : FOut (bestV l) g) : Top (nonN l) (outV (bestV l) g) := by
  have B := best_at l hl.1 l.length (Nat.le_refl _)
  unfold bestV at hg ⊢
  cases hb : best l l.length with
  | none =>
    rw [hb] at hg
    have hg0 : g = 0 := hg
    subst hg0
    have he : nonN l = [] := by
      rw [List.eq_nil_iff_forall_not_mem]
      intro x hx
      obtain ⟨h1, h2⟩ := mem_nonN.1 hx
      obtain ⟨j, hj, rfl⟩ := List.getElem_of_mem h1
      rw [B.no hb j _ hj (List.getElem?_eq_getElem hj)] at h2
      cases h2
    rw [he]
    exact ⟨fun _ => rfl, fun h => absurd rfl h, fun x hx => by cases hx⟩
  | some y =>
    rw [hb] at hg
    obtain ⟨j, z, hz, hzn, rfl, hag, _⟩ := B.is y hb
    obtain ⟨hc, hr, _⟩ := hl.1 j z hz
    have hmem : z ∈ nonN l := mem_nonN.2 ⟨List.mem_of_getElem? hz, hzn⟩
    have hs : sameB z.sv.nm z.sv.oN z.sv.oU g z.sv.oS z.k z.n z.u z.f z.s = true := back_same (conc_valid hc) (is_sv hc) hg
    have hs' := hs
    unfold sameB at hs'
    simp only [Bool.and_eq_true, beq_iff_eq] at hs'
    obtain ⟨⟨⟨⟨_, e1⟩, e2⟩, e3⟩, e4⟩ := hs'
    have nz := conc_num hc
    have e5 : g = z.f := by
      rw [bitsV_num nz] at e3
      cases hgn : (Ieee.double.read g).isNaN with
      | false => rw [bitsV_num hgn] at e3; omega
      | true =>
        rw [bitsV_nan hgn] at e3
        have e6 : z.f = 1 := by omega
        have e7 : bitsV g = 1 := bitsV_nan hgn
        exfalso
        have hN := out_num (x := z.sv) (by
          have hp := (conc_sv hc).2
          cases hsv : z.sv with
          | f32 q =>
            have hp' : z.sv.plain := hp
            rw [hsv] at hp'
            have hp2 : Ieee.single.order q q = some .eq := hp'
            exact num_of32 hp2
          | _ => rfl) hg
        revert hgn
        rw [hN]
        have hp := (conc_sv hc).2
        cases hsv : z.sv with
        | f32 q =>
          have hp' : z.sv.plain := hp
          rw [hsv] at hp'
          have hp2 : Ieee.single.order q q = some .eq := hp'
          have hq : (Ieee.single.read q).isNaN = false := num_of32 hp2
          intro hh
          have := (Flt.up_key hq).2.2.1
          have hh' : (Ieee.double.read (Flt.up q)).isNaN = true := hh
          rw [this] at hh'
          cases hh'
        | f64 q =>
          have hp' : z.sv.plain := hp
          rw [hsv] at hp'
          have hp2 : Ieee.double.order q q = some .eq := hp'
          intro hh
          have hh' : (Ieee.double.read q).isNaN = true := hh
          have : numB q = true := by unfold numB; rw [hp2]; rfl
          rw [numB_nan, hh'] at this
          cases this
        | iFloat q => rw [hsv] at hag; cases hag
        | _ =>
          intro hh
          have hh' : (Ieee.double.read 0).isNaN = true := hh
          rw [zero_num] at hh'
          cases hh'
    refine ⟨fun h => (by rw [h] at hmem; cases hmem), fun _ => ⟨z, hmem, ?_⟩, fun x hx => ?_⟩
    · exact sameB_comm hs
    · obtain ⟨h1, h2⟩ := mem_nonN.1 hx
      obtain ⟨i, hi, hxi⟩ := List.getElem_of_mem h1
      have hxi' : l[i]? = some x := by rw [List.getElem?_eq_getElem hi, hxi]
      have hx' := (hl.1 i x hxi').1
      have N := not_above hx' hc (hl.2 x hx z hmem) hag (B.top z.sv hb i x hi hxi' h2)
      show NotAbove x.n x.u x.f x.s z.sv.oN z.sv.oU g z.sv.oS
      exact ⟨by rw [e1]; exact N.n, by rw [e2]; exact N.u, by rw [e5]; exact N.f, by rw [e4]; exact N.s⟩

end Go.Proofs.YtiijcmdfbgoafaaDoor
