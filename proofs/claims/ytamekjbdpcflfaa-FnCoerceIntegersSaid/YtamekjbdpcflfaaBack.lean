/-
  A valid value that is brought into the database and out again is the same. No condition but that it is valid.
-/
import Derived.Test.YtamekjbdpcflfaaLawIdK
namespace Go.Proofs.Ytamekjbdpcflfaa
open Go.RowKit

theorem ba_eta (s : ByteArray) : (⟨s.data.toList.toArray⟩ : ByteArray) = s := by simp

/-- In and out again: the same. -/
theorem back_same {k : ByteArray} {n u : Int} {f : Nat} {s : ByteArray} {x : SV} {g : Nat} (hv : validB (Kd.of k.toList) n u f s = true) (hsv : SVof (Kd.of k.toList) n u f s x) (hg : FOut x g) :
    sameB x.nm x.oN x.oU g x.oS k n u f s = true := by
  have hko : Kd.of k.toList ≠ .other := fun h => by rw [h] at hv; exact absurd hv (by simp [validB])
  have hl := Kd.of_lit _ rfl hko
  generalize hK : Kd.of k.toList = K at hv hsv hl hko
  clear hK
  unfold sameB
  rw [hl]
  unfold SVof at hsv
  split at hsv
  · rename_i hc
    obtain ⟨y, rfl, hn, _⟩ := hsv
    obtain ⟨rfl, hnb⟩ := hc
    unfold FOut at hg
    rw [if_pos (by exact hn)] at hg
    rw [numB_nan] at hnb
    rw [bitsV_nan hg.1, bitsV_nan (f := f) (by simpa using hnb)]
    simp only [validB, Bool.and_eq_true, beq_iff_eq, List.isEmpty_iff] at hv
    obtain ⟨⟨⟨h1, h2⟩, h3⟩, _⟩ := hv
    subst h1 h2
    rw [h3]
    simp only [SV.nm, SV.oN, SV.oU, SV.oS]
    decide +kernel
  · rename_i hc
    subst hsv
    unfold FOut at hg
    cases K with
    | other => exact absurd rfl hko
    | null =>
      rw [if_neg (by simp [toSV, SV.isN32])] at hg
      simp only [validB, Bool.and_eq_true, beq_iff_eq] at hv
      obtain ⟨⟨rfl, rfl⟩, h3⟩ := hv
      obtain ⟨e1, e2⟩ := zeros_b h3
      rw [hg, e1, e2]
      simp only [toSV, SV.nm, SV.oN, SV.oU, SV.oF, SV.oS]
      decide +kernel
    | bool =>
      rw [if_neg (by simp [toSV, SV.isN32])] at hg
      simp only [validB, Bool.and_eq_true, Bool.or_eq_true, beq_iff_eq] at hv
      obtain ⟨⟨rfl, h3⟩, h4⟩ := hv
      obtain ⟨e1, e2⟩ := zeros_b h3
      rw [hg, e1, e2]
      simp only [toSV, SV.nm, SV.oN, SV.oU, SV.oF, SV.oS]
      rcases h4 with rfl | rfl <;> decide +kernel
    | int q =>
      rw [if_neg (by simp [toSV, SV.isN32])] at hg
      cases q <;>
      · simp only [validB, Bool.and_eq_true, beq_iff_eq] at hv
        obtain ⟨e1, e2⟩ := zeros_b (by first | exact hv.1.2 | exact hv.2)
        rw [hg, e1, e2]
        have h1 := (by first | exact hv.1.1 | exact hv.1)
        subst h1
        simp only [toSV, SV.nm, SV.oN, SV.oU, SV.oF, SV.oS, IntKind.signed, if_true, if_false, Bool.false_eq_true, bitsV_0, nil_toList]
        simp [Kd.lit]
        try decide +kernel
    | f32 =>
      have hnb : numB f = true := by
        cases h : numB f with
        | true => rfl
        | false => exact absurd ⟨rfl, h⟩ hc
      have hnn : (Ieee.double.read f).isNaN = false := by rw [numB_nan] at hnb; simpa using hnb
      rw [if_neg (by simp only [toSV, SV.isN32]; rw [down_num hnn]; simp)] at hg
      simp only [validB, single64, hnb, Bool.and_eq_true, beq_iff_eq, List.isEmpty_iff, Bool.not_true, Bool.false_or] at hv
      obtain ⟨⟨⟨rfl, rfl⟩, h3⟩, h4, _⟩ := hv
      rw [hg, h3]
      simp only [toSV, SV.nm, SV.oN, SV.oU, SV.oF, SV.oS, nil_toList]
      rw [h4]
      simp [Kd.lit]
      try decide +kernel
    | f64 =>
      rw [if_neg (by simp [toSV, SV.isN32])] at hg
      simp only [validB, Bool.and_eq_true, beq_iff_eq, List.isEmpty_iff] at hv
      obtain ⟨⟨rfl, rfl⟩, h3⟩ := hv
      rw [hg, h3]
      simp only [toSV, SV.nm, SV.oN, SV.oU, SV.oF, SV.oS, nil_toList]
      simp [Kd.lit]
      try decide +kernel
    | str =>
      rw [if_neg (by simp [toSV, SV.isN32])] at hg
      simp only [validB, Bool.and_eq_true, beq_iff_eq] at hv
      obtain ⟨⟨⟨rfl, rfl⟩, h3⟩, _⟩ := hv
      rw [hg, h3]
      simp only [toSV, SV.nm, SV.oN, SV.oU, SV.oF, SV.oS, bitsV_0]
      simp [Kd.lit]
      try decide +kernel
    | blob =>
      rw [if_neg (by simp [toSV, SV.isN32])] at hg
      simp only [validB, Bool.and_eq_true, beq_iff_eq] at hv
      obtain ⟨⟨⟨rfl, rfl⟩, h3⟩, _⟩ := hv
      rw [hg, h3]
      simp only [toSV, SV.nm, SV.oN, SV.oU, SV.oF, SV.oS, bitsV_0, ba_eta]
      simp [Kd.lit]
      try decide +kernel
    | iInt =>
      rw [if_neg (by simp [toSV, SV.isN32])] at hg
      simp only [validB, Bool.and_eq_true, beq_iff_eq] at hv
      obtain ⟨⟨rfl, h3⟩, _⟩ := hv
      obtain ⟨e1, e2⟩ := zeros_b h3
      rw [hg, e1, e2]
      simp only [toSV, SV.nm, SV.oN, SV.oU, SV.oF, SV.oS, bitsV_0, nil_toList]
      simp [Kd.lit]
      try decide +kernel
    | iRune =>
      rw [if_neg (by simp [toSV, SV.isN32])] at hg
      simp only [validB, Bool.and_eq_true, beq_iff_eq] at hv
      obtain ⟨⟨rfl, h3⟩, _⟩ := hv
      obtain ⟨e1, e2⟩ := zeros_b h3
      rw [hg, e1, e2]
      simp only [toSV, SV.nm, SV.oN, SV.oU, SV.oF, SV.oS, bitsV_0, nil_toList]
      simp [Kd.lit]
      try decide +kernel
    | iUint =>
      rw [if_neg (by simp [toSV, SV.isN32])] at hg
      simp only [validB, Bool.and_eq_true, beq_iff_eq] at hv
      obtain ⟨rfl, h3⟩ := hv
      obtain ⟨e1, e2⟩ := zeros_b h3
      rw [hg, e1, e2]
      simp only [toSV, SV.nm, SV.oN, SV.oU, SV.oF, SV.oS, bitsV_0, nil_toList]
      simp [Kd.lit]
      try decide +kernel
    | iFloat =>
      rw [if_neg (by simp [toSV, SV.isN32])] at hg
      simp only [validB, Bool.and_eq_true, beq_iff_eq, List.isEmpty_iff] at hv
      obtain ⟨⟨rfl, rfl⟩, h3⟩ := hv
      rw [hg, h3]
      simp only [toSV, SV.nm, SV.oN, SV.oU, SV.oF, SV.oS, nil_toList]
      simp [Kd.lit]
      try decide +kernel

end Go.Proofs.Ytamekjbdpcflfaa
