/-
  A valid value that is brought into the database and out again is the same; what comes out is valid.
-/
import Derived.Test.YtiijcmdfbgoafaaDoorCvp
namespace Go.Proofs.YtiijcmdfbgoafaaDoor
open Go.RowKit

theorem zeros_b {f : Nat} {s : ByteArray} (h : zeros f s = true) : bitsV f = 0 ∧ s.toList = [] := by
  unfold zeros at h
  simp only [Bool.and_eq_true, beq_iff_eq, List.isEmpty_iff] at h
  exact h
theorem nil_toList : (⟨#[]⟩ : ByteArray).toList = [] := by decide +kernel
theorem bitsV_0 : bitsV 0 = 0 := by decide +kernel

theorem ba_eta (s : ByteArray) : (⟨s.data.toList.toArray⟩ : ByteArray) = s := by simp

/-- In and out again: the same. -/
theorem back_same {k : ByteArray} {n u : Int} {f : Nat} {s : ByteArray} {x : SV} {g : Nat} (hv : validB (Kd.of k.toList) n u f s = true) (hsv : SVof (Kd.of k.toList) n u f s x) (hg : FOut x g) :
    sameB x.nm x.oN x.oU g x.oS k n u f s = true := by
  have hko : Kd.of k.toList ≠ .other := fun h => by rw [h] at hv; exact absurd hv (by simp [validB])
  have hl := Kd.of_lit _ rfl hko
  generalize hK : Kd.of k.toList = K at hv hsv hl hko
  clear hK
  unfold sameB
  rw [hl]
  unfold SVof at hsv
  split at hsv
  · rename_i hc
    obtain ⟨y, rfl, hn, _⟩ := hsv
    obtain ⟨rfl, hnb⟩ := hc
    unfold FOut at hg
    rw [if_pos (by exact hn)] at hg
    rw [numB_nan] at hnb
    rw [bitsV_nan hg.1, bitsV_nan (f := f) (by simpa using hnb)]
    simp only [validB, Bool.and_eq_true, beq_iff_eq, List.isEmpty_iff] at hv
    obtain ⟨⟨⟨h1, h2⟩, h3⟩, _⟩ := hv
    subst h1 h2
    rw [h3]
    simp only [SV.nm, SV.oN, SV.oU, SV.oS]
    decide +kernel
  · rename_i hc
    subst hsv
    unfold FOut at hg
    cases K with
    | other => exact absurd rfl hko
    | null =>
      rw [if_neg (by simp [toSV, SV.isN32])] at hg
      simp only [validB, Bool.and_eq_true, beq_iff_eq] at hv
      obtain ⟨⟨rfl, rfl⟩, h3⟩ := hv
      obtain ⟨e1, e2⟩ := zeros_b h3
      rw [hg, e1, e2]
      simp only [toSV, SV.nm, SV.oN, SV.oU, SV.oF, SV.oS]
      decide +kernel
    | bool =>
      rw [if_neg (by simp [toSV, SV.isN32])] at hg
      simp only [validB, Bool.and_eq_true, Bool.or_eq_true, beq_iff_eq] at hv
      obtain ⟨⟨rfl, h3⟩, h4⟩ := hv
      obtain ⟨e1, e2⟩ := zeros_b h3
      rw [hg, e1, e2]
      simp only [toSV, SV.nm, SV.oN, SV.oU, SV.oF, SV.oS]
      rcases h4 with rfl | rfl <;> decide +kernel
    | int q =>
      rw [if_neg (by simp [toSV, SV.isN32])] at hg
      cases q <;>
      · simp only [validB, Bool.and_eq_true, beq_iff_eq] at hv
        obtain ⟨e1, e2⟩ := zeros_b (by first | exact hv.1.2 | exact hv.2)
        rw [hg, e1, e2]
        have h1 := (by first | exact hv.1.1 | exact hv.1)
        subst h1
        simp only [toSV, SV.nm, SV.oN, SV.oU, SV.oF, SV.oS, IntKind.signed, if_true, if_false, Bool.false_eq_true, bitsV_0, nil_toList]
        simp [Kd.lit]
        try decide +kernel
    | f32 =>
      have hnb : numB f = true := by
        cases h : numB f with
        | true => rfl
        | false => exact absurd ⟨rfl, h⟩ hc
      have hnn : (Ieee.double.read f).isNaN = false := by rw [numB_nan] at hnb; simpa using hnb
      rw [if_neg (by simp only [toSV, SV.isN32]; rw [down_num hnn]; simp)] at hg
      simp only [validB, single64, hnb, Bool.and_eq_true, beq_iff_eq, List.isEmpty_iff, Bool.not_true, Bool.false_or] at hv
      obtain ⟨⟨⟨rfl, rfl⟩, h3⟩, h4, _⟩ := hv
      rw [hg, h3]
      simp only [toSV, SV.nm, SV.oN, SV.oU, SV.oF, SV.oS, nil_toList]
      rw [h4]
      simp [Kd.lit]
      try decide +kernel
    | f64 =>
      rw [if_neg (by simp [toSV, SV.isN32])] at hg
      simp only [validB, Bool.and_eq_true, beq_iff_eq, List.isEmpty_iff] at hv
      obtain ⟨⟨rfl, rfl⟩, h3⟩ := hv
      rw [hg, h3]
      simp only [toSV, SV.nm, SV.oN, SV.oU, SV.oF, SV.oS, nil_toList]
      simp [Kd.lit]
      try decide +kernel
    | str =>
      rw [if_neg (by simp [toSV, SV.isN32])] at hg
      simp only [validB, Bool.and_eq_true, beq_iff_eq] at hv
      obtain ⟨⟨⟨rfl, rfl⟩, h3⟩, _⟩ := hv
      rw [hg, h3]
      simp only [toSV, SV.nm, SV.oN, SV.oU, SV.oF, SV.oS, bitsV_0]
      simp [Kd.lit]
      try decide +kernel
    | blob =>
      rw [if_neg (by simp [toSV, SV.isN32])] at hg
      simp only [validB, Bool.and_eq_true, beq_iff_eq] at hv
      obtain ⟨⟨⟨rfl, rfl⟩, h3⟩, _⟩ := hv
      rw [hg, h3]
      simp only [toSV, SV.nm, SV.oN, SV.oU, SV.oF, SV.oS, bitsV_0, ba_eta]
      simp [Kd.lit]
      try decide +kernel
    | iInt =>
      rw [if_neg (by simp [toSV, SV.isN32])] at hg
      simp only [validB, Bool.and_eq_true, beq_iff_eq] at hv
      obtain ⟨⟨rfl, h3⟩, _⟩ := hv
      obtain ⟨e1, e2⟩ := zeros_b h3
      rw [hg, e1, e2]
      simp only [toSV, SV.nm, SV.oN, SV.oU, SV.oF, SV.oS, bitsV_0, nil_toList]
      simp [Kd.lit]
      try decide +kernel
    | iRune =>
      rw [if_neg (by simp [toSV, SV.isN32])] at hg
      simp only [validB, Bool.and_eq_true, beq_iff_eq] at hv
      obtain ⟨⟨rfl, h3⟩, _⟩ := hv
      obtain ⟨e1, e2⟩ := zeros_b h3
      rw [hg, e1, e2]
      simp only [toSV, SV.nm, SV.oN, SV.oU, SV.oF, SV.oS, bitsV_0, nil_toList]
      simp [Kd.lit]
      try decide +kernel
    | iUint =>
      rw [if_neg (by simp [toSV, SV.isN32])] at hg
      simp only [validB, Bool.and_eq_true, beq_iff_eq] at hv
      obtain ⟨rfl, h3⟩ := hv
      obtain ⟨e1, e2⟩ := zeros_b h3
      rw [hg, e1, e2]
      simp only [toSV, SV.nm, SV.oN, SV.oU, SV.oF, SV.oS, bitsV_0, nil_toList]
      simp [Kd.lit]
      try decide +kernel
    | iFloat =>
      rw [if_neg (by simp [toSV, SV.isN32])] at hg
      simp only [validB, Bool.and_eq_true, beq_iff_eq, List.isEmpty_iff] at hv
      obtain ⟨⟨rfl, rfl⟩, h3⟩ := hv
      rw [hg, h3]
      simp only [toSV, SV.nm, SV.oN, SV.oU, SV.oF, SV.oS, nil_toList]
      simp [Kd.lit]
      try decide +kernel

/-! ### What comes out is valid -/

theorem nm_kd (x : SV) : Kd.of x.nm.toList = x.kd := by
  cases x with
  | int q n => cases q <;> (simp only [SV.nm, SV.kd]; decide +kernel)
  | _ => simp only [SV.nm, SV.kd]; decide +kernel

theorem out_num {x : SV} (h : x.isN32 = false) {g : Nat} (hg : FOut x g) : g = x.oF := by
  unfold FOut at hg
  rwa [if_neg (by rw [h]; decide)] at hg

theorem up_lt (x : Nat) : Flt.up x < 18446744073709551616 := by
  unfold Flt.up
  exact Nat.lt_of_lt_of_le (Ieee.Format.write_lt _ _) (by decide)

theorem out_valid {x : SV} (hx : x.wf) (hs : x.small) (hk : x.kd.col = true) {g : Nat} (hg : FOut x g) : validB x.kd x.oN x.oU g x.oS = true ∧ Rng x.oN x.oU g := by
  cases x with
  | bool b =>
    obtain rfl := out_num rfl hg
    simp only [SV.kd, SV.oN, SV.oU, SV.oF, SV.oS, validB, zeros, bitsV_0, nil_toList, Rng]
    cases b <;> simp
  | int q n =>
    obtain rfl := out_num rfl hg
    obtain ⟨h1, h2⟩ := hx
    cases q <;> simp only [IntKind.min, IntKind.max, IntKind.signed, IntKind.bits, if_true, if_false, Bool.false_eq_true, Nat.reduceSub, Int.reducePow, Int.reduceSub] at h1 h2 <;>
      simp [SV.kd, SV.oN, SV.oU, SV.oF, SV.oS, validB, zeros, bitsV_0, IntKind.signed, Rng] <;> omega
  | f32 y =>
    cases hn : (Ieee.single.read y).isNaN with
    | true =>
      unfold FOut at hg
      rw [if_pos (by exact hn)] at hg
      have hb : numB g = false := by rw [numB_nan, hg.1]; rfl
      simp only [SV.kd, SV.oN, SV.oU, SV.oS, validB, single64, hb, nil_toList, Rng]
      exact ⟨by simp, by omega, by omega, by omega, by omega, hg.2⟩
    | false =>
      obtain rfl := out_num (x := .f32 y) hn hg
      have hd := Flt.down_up hx hn
      obtain ⟨_, _, k3, k4⟩ := Flt.up_key hn
      simp only [SV.kd, SV.oN, SV.oU, SV.oF, SV.oS, validB, single64, hd, k4, nil_toList, Rng]
      refine ⟨?_, by omega, by omega, by omega, by omega, up_lt y⟩
      cases (Ieee.single.read y).isInfinity <;> simp
  | f64 y =>
    obtain rfl := out_num rfl hg
    simp only [SV.kd, SV.oN, SV.oU, SV.oS, validB, nil_toList, Rng]
    exact ⟨by decide, by omega, by omega, by omega, by omega, hx⟩
  | str s =>
    obtain rfl := out_num rfl hg
    have h9 : (s.size : Int) ≤ 65536 := by have : s.size ≤ 65536 := hs; omega
    refine ⟨?_, by show (-9223372036854775808 : Int) ≤ 0; omega, by show (0 : Int) ≤ 9223372036854775807; omega, by show (0 : Int) ≤ 0; omega, by show (0 : Int) ≤ 18446744073709551615; omega, by show (0 : Nat) < 18446744073709551616; omega⟩
    show ((0 : Int) == 0 && (0 : Int) == 0 && bitsV 0 == 0 && decide ((s.size : Int) ≤ 65536)) = true
    rw [bitsV_0, decide_eq_true h9]
    rfl
  | blob l =>
    obtain rfl := out_num rfl hg
    have h9 : ((⟨l.toArray⟩ : ByteArray).size : Int) ≤ 65536 := by
      have h8 : l.length ≤ 65536 := hs
      have hl : (⟨l.toArray⟩ : ByteArray).size = l.length := by show l.toArray.size = l.length; simp
      rw [hl]
      omega
    refine ⟨?_, by show (-9223372036854775808 : Int) ≤ 0; omega, by show (0 : Int) ≤ 9223372036854775807; omega, by show (0 : Int) ≤ 0; omega, by show (0 : Int) ≤ 18446744073709551615; omega, by show (0 : Nat) < 18446744073709551616; omega⟩
    show ((0 : Int) == 0 && (0 : Int) == 0 && bitsV 0 == 0 && decide (((⟨l.toArray⟩ : ByteArray).size : Int) ≤ 65536)) = true
    rw [bitsV_0, decide_eq_true h9]
    rfl
  | _ => cases hk

theorem toSV_kd {kd : Kd} {n u : Int} {f : Nat} {s : ByteArray} {y : SV} (hv : validB kd n u f s = true) (h : SVof kd n u f s y) : y.kd = kd := by
  unfold SVof at h
  split at h
  · rename_i hc
    obtain ⟨x, rfl, _⟩ := h
    exact hc.1.symm
  · subst h
    cases kd <;> first | rfl | cases hv

theorem toSV_small {kd : Kd} {n u : Int} {f : Nat} {s : ByteArray} {y : SV} (hv : validB kd n u f s = true) (h : SVof kd n u f s y) : y.small := by
  unfold SVof at h
  split at h
  · obtain ⟨x, rfl, _⟩ := h
    trivial
  · subst h
    cases kd <;> first | trivial | (simp only [validB, Bool.and_eq_true, decide_eq_true_eq] at hv; simp only [toSV, SV.small, Array.length_toList]; have := hv.2; first | omega | (simp only [ByteArray.size] at this; omega))

theorem sameB_comm {k : ByteArray} {n u : Int} {f : Nat} {s k' : ByteArray} {n' u' : Int} {f' : Nat} {s' : ByteArray} (h : sameB k n u f s k' n' u' f' s' = true) : sameB k' n' u' f' s' k n u f s = true := by
  unfold sameB at h ⊢
  simp only [Bool.and_eq_true, beq_iff_eq] at h ⊢
  obtain ⟨⟨⟨⟨h1, h2⟩, h3⟩, h4⟩, h5⟩ := h
  exact ⟨⟨⟨⟨h1.symm, h2.symm⟩, h3.symm⟩, h4.symm⟩, h5.symm⟩

end Go.Proofs.YtiijcmdfbgoafaaDoor
