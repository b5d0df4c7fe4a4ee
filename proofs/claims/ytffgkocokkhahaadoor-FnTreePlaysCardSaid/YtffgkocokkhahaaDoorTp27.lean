/-
  Deeds as a law gets them; laws.zzFits13, laws.zzFits12, laws.isKey. PRINTED BY wip/tpl/gen_ylf.py. || A valid value that is brought (as Back, without a law's walk) into the database and out again is the same. No condition but that it is valid. || Values that came out are the same as those that were put in; laws.sameRow of what is the same. || laws.samePairs of what is the same. || laws.backPairs. || laws.grows. || laws.grows: the walk.
-/
import Derived.Test.YtffgkocokkhahaaDoorTp26
import Derived.Test.YtffgkocokkhahaaDoorTp08
import Derived.Test.YtffgkocokkhahaaDoorTp24
import Derived.Test.YtffgkocokkhahaaDoorTp18
import Derived.Deep.RegionLaw

/- Deeds as a law gets them; laws.zzFits13, laws.zzFits12, laws.isKey. PRINTED BY wip/tpl/gen_ylf.py. -/
namespace Go.Proofs.YtffgkocokkhahaaDoor
open Go.RowKit

/-- A deed as it comes. -/
structure RDV where
  op : ByteArray
  A : Option Addr
  c : Nat
  K : List VV
  B : Option Addr
  d : Nat
  V : List VV
  N : Int
def RDV.cells (v : RDV) : List Value := [.string v.op, .slice v.A v.K.length v.c, .slice v.B v.V.length v.d, .int .i64 v.N]
theorem RDV.four (v : RDV) : v.cells.length = 4 := rfl

def RDeedsAt (w : World) (A : Option Addr) (ds : List RDV) : Prop :=
  ∀ (i : Nat) (d : RDV), ds[i]? = some d → (∃ ad, A = some ad ∧ (ad.add (i * 4)).block < w.heap.size ∧ w.cell? (ad.add (i * 4)) = some (.string d.op) ∧ w.cell? ⟨(ad.add (i * 4)).block, (ad.add (i * 4)).off + 1, none⟩ = some (.slice d.A d.K.length d.c) ∧
    w.cell? ⟨(ad.add (i * 4)).block, (ad.add (i * 4)).off + 2, none⟩ = some (.slice d.B d.V.length d.d) ∧ w.cell? ⟨(ad.add (i * 4)).block, (ad.add (i * 4)).off + 3, none⟩ = some (.int .i64 d.N)) ∧ LAt w d.A d.K ∧ LAt w d.B d.V

theorem RDeedsAt.below {w w' : World} {A : Option Addr} {ds : List RDV} (h : RDeedsAt w A ds) (hb : Below w.heap.size w w') : RDeedsAt w' A ds := by
  intro i r hr
  obtain ⟨⟨ad, rfl, hlt, h0, h1, h2, h3⟩, hl, hv⟩ := h i r hr
  refine ⟨⟨ad, rfl, Nat.lt_of_lt_of_le hlt hb.size, ?_, ?_, ?_, ?_⟩, hl.below hb, hv.below hb⟩
  all_goals (rw [hb.cell (by exact hlt)]; assumption)

def fits13B (d : RDV) : Bool := decide (d.op.size ≤ 2147483647) && (fits2B d.K && fits2B d.V)
def fits12B (dv : List RDV) : Bool := decide (dv.length ≤ 2147483647) && dv.all fits13B

set_option maxHeartbeats 1000000 in
theorem zzFits13_ff (op : ByteArray) (A : Option Addr) (c : Nat) (K : List VV) (B : Option Addr) (d : Nat) (V : List VV) (N : Int) (w : World) (hs : op.size ≤ 2147483647)
    (HW : Hid (∀ w', Below w.heap.size w w' → Calls Tryd.prog 31 #[.slice A K.length c] w' fun e w'' => e = .returned (.bool false) ∧ Below w'.heap.size w' w''))
     :
    Calls Tryd.prog 17 #[.agg #[.string op, .slice A K.length c, .slice B V.length d, .int .i64 N]] w fun e w' => e = .returned (.bool false) ∧ Below w.heap.size w w' := by
  go_enter Tryd.func17, Tryd.ntmps17
  go_wp2_with (first | (go_at_call_of 31 (#[Value.slice A K.length c]); refine (HW.out _ ((Below.refl _ _).alloc (Nat.le_refl _) _)).mono ?_; rintro e w1 ⟨rfl, hb1⟩; have HB1 : Hid (Below w.heap.size w w1) := Lib.hid (up_below' ((Below.refl _ _).alloc (Nat.le_refl _) _) hb1); have k2 : w1.cell? ⟨w.heap.size, 2, none⟩ = some (.slice B V.length d) := cell_of_heap (heap_below (heap_new w _) hb1) 2; clear hb1))
  go_ret
  exact ⟨rfl, HB1.out⟩

set_option maxHeartbeats 1000000 in
theorem zzFits13_tf (op : ByteArray) (A : Option Addr) (c : Nat) (K : List VV) (B : Option Addr) (d : Nat) (V : List VV) (N : Int) (w : World) (hs : op.size ≤ 2147483647)
    (HW : Hid (∀ w', Below w.heap.size w w' → Calls Tryd.prog 31 #[.slice A K.length c] w' fun e w'' => e = .returned (.bool true) ∧ Below w'.heap.size w' w''))
    (HX : Hid (∀ w', Below w.heap.size w w' → Calls Tryd.prog 31 #[.slice B V.length d] w' fun e w'' => e = .returned (.bool false) ∧ Below w'.heap.size w' w'')) :
    Calls Tryd.prog 17 #[.agg #[.string op, .slice A K.length c, .slice B V.length d, .int .i64 N]] w fun e w' => e = .returned (.bool false) ∧ Below w.heap.size w w' := by
  go_enter Tryd.func17, Tryd.ntmps17
  go_wp2_with (first | (go_at_call_of 31 (#[Value.slice A K.length c]); refine (HW.out _ ((Below.refl _ _).alloc (Nat.le_refl _) _)).mono ?_; rintro e w1 ⟨rfl, hb1⟩; have HB1 : Hid (Below w.heap.size w w1) := Lib.hid (up_below' ((Below.refl _ _).alloc (Nat.le_refl _) _) hb1); have k2 : w1.cell? ⟨w.heap.size, 2, none⟩ = some (.slice B V.length d) := cell_of_heap (heap_below (heap_new w _) hb1) 2; clear hb1) | (go_at_call_of 31 (#[Value.slice B V.length d]); refine (HX.out _ HB1.out).mono ?_; rintro e w2 ⟨rfl, hb2⟩))
  go_ret
  exact ⟨rfl, up_below' HB1.out hb2⟩

set_option maxHeartbeats 1000000 in
theorem zzFits13_tt (op : ByteArray) (A : Option Addr) (c : Nat) (K : List VV) (B : Option Addr) (d : Nat) (V : List VV) (N : Int) (w : World) (hs : op.size ≤ 2147483647)
    (HW : Hid (∀ w', Below w.heap.size w w' → Calls Tryd.prog 31 #[.slice A K.length c] w' fun e w'' => e = .returned (.bool true) ∧ Below w'.heap.size w' w''))
    (HX : Hid (∀ w', Below w.heap.size w w' → Calls Tryd.prog 31 #[.slice B V.length d] w' fun e w'' => e = .returned (.bool true) ∧ Below w'.heap.size w' w'')) :
    Calls Tryd.prog 17 #[.agg #[.string op, .slice A K.length c, .slice B V.length d, .int .i64 N]] w fun e w' => e = .returned (.bool true) ∧ Below w.heap.size w w' := by
  go_enter Tryd.func17, Tryd.ntmps17
  go_wp2_with (first | (go_at_call_of 31 (#[Value.slice A K.length c]); refine (HW.out _ ((Below.refl _ _).alloc (Nat.le_refl _) _)).mono ?_; rintro e w1 ⟨rfl, hb1⟩; have HB1 : Hid (Below w.heap.size w w1) := Lib.hid (up_below' ((Below.refl _ _).alloc (Nat.le_refl _) _) hb1); have k2 : w1.cell? ⟨w.heap.size, 2, none⟩ = some (.slice B V.length d) := cell_of_heap (heap_below (heap_new w _) hb1) 2; clear hb1) | (go_at_call_of 31 (#[Value.slice B V.length d]); refine (HX.out _ HB1.out).mono ?_; rintro e w2 ⟨rfl, hb2⟩))
  go_ret
  exact ⟨rfl, up_below' HB1.out hb2⟩

set_option maxHeartbeats 1000000 in
theorem zzFits13_any (v : RDV) (w : World) (hl : LAt w v.A v.K) (hv : LAt w v.B v.V) :
    Calls Tryd.prog 17 #[.agg #[.string v.op, .slice v.A v.K.length v.c, .slice v.B v.V.length v.d, .int .i64 v.N]] w fun e w' => e = .returned (.bool (fits13B v)) ∧ Below w.heap.size w w' := by
  obtain ⟨op, A, c, K, B, d, V, N⟩ := v
  simp only at hl hv ⊢
  have HF := Lib.hid (fun (b : Bool) (hb : fits2B K = b) (w' : World) (hw : Below w.heap.size w w') => show Calls Tryd.prog 31 #[.slice A K.length c] w' fun e w'' => e = .returned (.bool b) ∧ Below w'.heap.size w' w'' by rw [← hb]; exact zzFits2_any K A c w' (hl.below hw))
  have HG := Lib.hid (fun (b : Bool) (hb : fits2B V = b) (w' : World) (hw : Below w.heap.size w w') => show Calls Tryd.prog 31 #[.slice B V.length d] w' fun e w'' => e = .returned (.bool b) ∧ Below w'.heap.size w' w'' by rw [← hb]; exact zzFits2_any V B d w' (hv.below hw))
  clear hl hv
  by_cases hs : op.size ≤ 2147483647
  · cases hb : fits2B K with
    | false =>
      have e : fits13B ⟨op, A, c, K, B, d, V, N⟩ = false := by simp [fits13B, hb]
      rw [e]
      exact zzFits13_ff op A c K B d V N w hs (Lib.hid (HF.out false hb))
    | true =>
      cases hb2 : fits2B V with
      | false =>
        have e : fits13B ⟨op, A, c, K, B, d, V, N⟩ = false := by simp [fits13B, hb2]
        rw [e]
        exact zzFits13_tf op A c K B d V N w hs (Lib.hid (HF.out true hb)) (Lib.hid (HG.out false hb2))
      | true =>
        have e : fits13B ⟨op, A, c, K, B, d, V, N⟩ = true := by simp [fits13B, hb, hb2, hs]
        rw [e]
        exact zzFits13_tt op A c K B d V N w hs (Lib.hid (HF.out true hb)) (Lib.hid (HG.out true hb2))
  · have hs' : 2147483647 < op.size := by omega
    have e : fits13B ⟨op, A, c, K, B, d, V, N⟩ = false := by simp [fits13B]; omega
    rw [e]
    clear e
    go_enter Tryd.func17, Tryd.ntmps17
    go_wp2
    go_ret
    exact ⟨rfl, (Below.refl _ _).alloc (Nat.le_refl _) _⟩

set_option maxHeartbeats 1000000 in
theorem zzFits12_any (dv : List RDV) (A : Option Addr) (c : Nat) (w : World) (hl : RDeedsAt w A dv) :
    Calls Tryd.prog 5 #[.slice A dv.length c] w fun e w' => e = .returned (.bool (fits12B dv)) ∧ Below w.heap.size w w' := by
  obtain ⟨len, hlen⟩ : ∃ len, len = dv.length := ⟨_, rfl⟩
  have HL := Lib.hid hl
  have HN := Lib.hid hlen
  rw [← hlen]
  have HB : Hid (2147483647 < len → fits12B dv = false) := fun h => by unfold fits12B; rw [← hlen]; simp; omega
  have HE : Hid (∀ (k : Nat) (x : RDV), dv[k]? = some x → fits13B x = false → fits12B dv = false) := fun k x hx hf => by
    unfold fits12B
    rw [Bool.and_eq_false_iff]
    right
    rw [List.all_eq_false]
    exact ⟨x, List.mem_of_getElem? hx, by rw [hf]; decide⟩
  have HY : Hid (len ≤ 2147483647 → (∀ j x, j < len → dv[j]? = some x → fits13B x = true) → fits12B dv = true) := fun h1 h2 => by
    unfold fits12B
    rw [Bool.and_eq_true, decide_eq_true_eq, List.all_eq_true]
    refine ⟨by omega, fun x hx => ?_⟩
    obtain ⟨j, hj, rfl⟩ := List.getElem_of_mem hx
    exact h2 j _ (by omega) (List.getElem?_eq_getElem hj)
  clear hl hlen
  go_enter Tryd.func5, Tryd.ntmps5
  have HF := Lib.hid (fun (d : RDV) (b : Bool) (h : fits13B d = b) (w : World) (hl : LAt w d.A d.K) (hv : LAt w d.B d.V) => show Calls Tryd.prog 17 #[.agg #[.string d.op, .slice d.A d.K.length d.c, .slice d.B d.V.length d.d, .int .i64 d.N]] w fun e w' => e = .returned (.bool b) ∧ Below w.heap.size w w' by rw [← h]; exact zzFits13_any d w hl hv)
  go_wp2
  · go_ret
    exact ⟨by rw [HB.out (by omega)]; rfl, Below.refl _ _⟩
  go_loopw [10] (fun i wr => ∃ k : Nat, k ≤ len ∧ i = .int .i64 k ∧ Below w.heap.size w wr ∧ ∀ j x, j < k → dv[j]? = some x → fits13B x = true) (fun i _ => len - (intOf i).toNat)
  case atStart => exact ⟨0, by omega, rfl, Below.refl _ _, fun _ _ h => by omega⟩
  case round =>
    obtain ⟨k, hk, rfl, hb, hall⟩ := hrel
    have HA := Lib.hid hall
    clear hall
    by_cases hlt : k < len
    · obtain ⟨x, hx'⟩ : ∃ x, dv[k]? = some x := ⟨_, List.getElem?_eq_getElem (by rw [← HN.out]; exact hlt)⟩
      have HX := Lib.hid hx'
      obtain ⟨⟨ad, rfl, hbl, h0, h1, h2, h3⟩, hl, hv⟩ := (HL.out.below hb) k x hx'
      have HLA := Lib.hid hl
      have HLV := Lib.hid hv
      clear hx' hl hv
      have hs := hb.size
      cases hf : fits13B x with
      | false =>
        have HW := Lib.hid (HF.out x false hf)
        have hf' := Lib.hid hf
        clear hf
        go_wp2_with (go_at_call 17; refine (HW.out _ (HLA.out.below ((Below.refl _ _).alloc (Nat.le_refl _) _)) (HLV.out.below ((Below.refl _ _).alloc (Nat.le_refl _) _))).mono ?_; rintro e w1 ⟨rfl, hb1⟩)
        go_ret
        exact ⟨by rw [HE.out k x HX.out hf'.out]; rfl, up_below' (hb.alloc hb.size _) hb1⟩
      | true =>
        have HW := Lib.hid (HF.out x true hf)
        have hf' := Lib.hid hf
        clear hf
        go_wp2_with (go_at_call 17; refine (HW.out _ (HLA.out.below ((Below.refl _ _).alloc (Nat.le_refl _) _)) (HLV.out.below ((Below.refl _ _).alloc (Nat.le_refl _) _))).mono ?_; rintro e w1 ⟨rfl, hb1⟩)
        refine ⟨⟨k + 1, by omega, by push_cast; rfl, up_below' (hb.alloc hb.size _) hb1, fun j y hj hy => ?_⟩, by simp [intOf]; omega⟩
        rcases Nat.lt_or_ge j k with h | h
        · exact HA.out j y h hy
        · obtain rfl : j = k := by omega
          obtain rfl : y = x := Option.some.inj (hy.symm.trans HX.out)
          exact hf'.out
    · have hke : k = len := by omega
      subst hke
      go_wp2
      go_ret
      exact ⟨by rw [HY.out (by omega) HA.out]; rfl, hb⟩

def isKeyB (l : List VV) (n : Int) : Bool := ((l.length : Int) == n) && concL l n

set_option maxHeartbeats 1000000 in
theorem isKey_any (l : List VV) (A : Option Addr) (c : Nat) (n : Int) (w : World) (hl : LAt w A l) (hm : l.length ≤ 9223372036854775807) :
    Calls Tryd.prog 7 #[.slice A l.length c, .int .i64 n] w fun e w' => e = .returned (.bool (isKeyB l n)) ∧ Below w.heap.size w w' := by
  have HA := Lib.hid (allConcrete_any l A c n w hl hm)
  clear hl
  cases h : ((l.length : Int) == n) with
  | false =>
    have e : isKeyB l n = false := by unfold isKeyB; rw [h]; rfl
    rw [e]
    clear e
    go_enter Tryd.func7, Tryd.ntmps7
    go_wp2
    go_ret
    exact ⟨rfl, Below.refl _ _⟩
  | true =>
    have e : isKeyB l n = concL l n := by unfold isKeyB; rw [h]; rfl
    rw [e]
    clear e
    go_enter Tryd.func7, Tryd.ntmps7
    go_wp2_with (go_at_call 8; refine HA.out.mono ?_; rintro e w1 ⟨rfl, hb1⟩)
    go_ret
    exact ⟨rfl, hb1⟩

end Go.Proofs.YtffgkocokkhahaaDoor

/- A valid value that is brought (as Back, without a law's walk) into the database and out again is the same. No condition but that it is valid. -/
namespace Go.Proofs.YtffgkocokkhahaaDoor
open Go.RowKit

theorem zeros_b {f : Nat} {s : ByteArray} (h : zeros f s = true) : bitsV f = 0 ∧ s.toList = [] := by
  unfold zeros at h
  simp only [Bool.and_eq_true, beq_iff_eq, List.isEmpty_iff] at h
  exact h
theorem nil_toList : (⟨#[]⟩ : ByteArray).toList = [] := by decide +kernel
theorem bitsV_0 : bitsV 0 = 0 := by decide +kernel

theorem ba_eta (s : ByteArray) : (⟨s.data.toList.toArray⟩ : ByteArray) = s := by simp

/-- In and out again: the same. -/
theorem back_same {k : ByteArray} {n u : Int} {f : Nat} {s : ByteArray} {x : SV} {g : Nat} (hv : validB (Kd.of k.toList) n u f s = true) (hsv : SVof (Kd.of k.toList) n u f s x) (hg : FOut x g) :
    sameB x.nm x.oN x.oU g x.oS k n u f s = true := by
  have hko : Kd.of k.toList ≠ .other := fun h => by rw [h] at hv; exact absurd hv (by simp [validB])
  have hl := Kd.of_lit _ rfl hko
  generalize hK : Kd.of k.toList = K at hv hsv hl hko
  clear hK
  unfold sameB
  rw [hl]
  unfold SVof at hsv
  split at hsv
  · rename_i hc
    obtain ⟨y, rfl, hn, _⟩ := hsv
    obtain ⟨rfl, hnb⟩ := hc
    unfold FOut at hg
    rw [if_pos (by exact hn)] at hg
    rw [numB_nan] at hnb
    rw [bitsV_nan hg.1, bitsV_nan (f := f) (by simpa using hnb)]
    simp only [validB, Bool.and_eq_true, beq_iff_eq, List.isEmpty_iff] at hv
    obtain ⟨⟨⟨h1, h2⟩, h3⟩, _⟩ := hv
    subst h1 h2
    rw [h3]
    simp only [SV.nm, SV.oN, SV.oU, SV.oS]
    decide +kernel
  · rename_i hc
    subst hsv
    unfold FOut at hg
    cases K with
    | other => exact absurd rfl hko
    | null =>
      rw [if_neg (by simp [toSV, SV.isN32])] at hg
      simp only [validB, Bool.and_eq_true, beq_iff_eq] at hv
      obtain ⟨⟨rfl, rfl⟩, h3⟩ := hv
      obtain ⟨e1, e2⟩ := zeros_b h3
      rw [hg, e1, e2]
      simp only [toSV, SV.nm, SV.oN, SV.oU, SV.oF, SV.oS]
      decide +kernel
    | bool =>
      rw [if_neg (by simp [toSV, SV.isN32])] at hg
      simp only [validB, Bool.and_eq_true, Bool.or_eq_true, beq_iff_eq] at hv
      obtain ⟨⟨rfl, h3⟩, h4⟩ := hv
      obtain ⟨e1, e2⟩ := zeros_b h3
      rw [hg, e1, e2]
      simp only [toSV, SV.nm, SV.oN, SV.oU, SV.oF, SV.oS]
      rcases h4 with rfl | rfl <;> decide +kernel
    | int q =>
      rw [if_neg (by simp [toSV, SV.isN32])] at hg
      cases q <;>
      · simp only [validB, Bool.and_eq_true, beq_iff_eq] at hv
        obtain ⟨e1, e2⟩ := zeros_b (by first | exact hv.1.2 | exact hv.2)
        rw [hg, e1, e2]
        have h1 := (by first | exact hv.1.1 | exact hv.1)
        subst h1
        simp only [toSV, SV.nm, SV.oN, SV.oU, SV.oF, SV.oS, IntKind.signed, if_true, if_false, Bool.false_eq_true, bitsV_0, nil_toList]
        simp [Kd.lit]
        try decide +kernel
    | f32 =>
      have hnb : numB f = true := by
        cases h : numB f with
        | true => rfl
        | false => exact absurd ⟨rfl, h⟩ hc
      have hnn : (Ieee.double.read f).isNaN = false := by rw [numB_nan] at hnb; simpa using hnb
      rw [if_neg (by simp only [toSV, SV.isN32]; rw [down_num hnn]; simp)] at hg
      simp only [validB, single64, hnb, Bool.and_eq_true, beq_iff_eq, List.isEmpty_iff, Bool.not_true, Bool.false_or] at hv
      obtain ⟨⟨⟨rfl, rfl⟩, h3⟩, h4, _⟩ := hv
      rw [hg, h3]
      simp only [toSV, SV.nm, SV.oN, SV.oU, SV.oF, SV.oS, nil_toList]
      rw [h4]
      simp [Kd.lit]
      try decide +kernel
    | f64 =>
      rw [if_neg (by simp [toSV, SV.isN32])] at hg
      simp only [validB, Bool.and_eq_true, beq_iff_eq, List.isEmpty_iff] at hv
      obtain ⟨⟨rfl, rfl⟩, h3⟩ := hv
      rw [hg, h3]
      simp only [toSV, SV.nm, SV.oN, SV.oU, SV.oF, SV.oS, nil_toList]
      simp [Kd.lit]
      try decide +kernel
    | str =>
      rw [if_neg (by simp [toSV, SV.isN32])] at hg
      simp only [validB, Bool.and_eq_true, beq_iff_eq] at hv
      obtain ⟨⟨⟨rfl, rfl⟩, h3⟩, _⟩ := hv
      rw [hg, h3]
      simp only [toSV, SV.nm, SV.oN, SV.oU, SV.oF, SV.oS, bitsV_0]
      simp [Kd.lit]
      try decide +kernel
    | blob =>
      rw [if_neg (by simp [toSV, SV.isN32])] at hg
      simp only [validB, Bool.and_eq_true, beq_iff_eq] at hv
      obtain ⟨⟨⟨rfl, rfl⟩, h3⟩, _⟩ := hv
      rw [hg, h3]
      simp only [toSV, SV.nm, SV.oN, SV.oU, SV.oF, SV.oS, bitsV_0, ba_eta]
      simp [Kd.lit]
      try decide +kernel
    | iInt =>
      rw [if_neg (by simp [toSV, SV.isN32])] at hg
      simp only [validB, Bool.and_eq_true, beq_iff_eq] at hv
      obtain ⟨⟨rfl, h3⟩, _⟩ := hv
      obtain ⟨e1, e2⟩ := zeros_b h3
      rw [hg, e1, e2]
      simp only [toSV, SV.nm, SV.oN, SV.oU, SV.oF, SV.oS, bitsV_0, nil_toList]
      simp [Kd.lit]
      try decide +kernel
    | iRune =>
      rw [if_neg (by simp [toSV, SV.isN32])] at hg
      simp only [validB, Bool.and_eq_true, beq_iff_eq] at hv
      obtain ⟨⟨rfl, h3⟩, _⟩ := hv
      obtain ⟨e1, e2⟩ := zeros_b h3
      rw [hg, e1, e2]
      simp only [toSV, SV.nm, SV.oN, SV.oU, SV.oF, SV.oS, bitsV_0, nil_toList]
      simp [Kd.lit]
      try decide +kernel
    | iUint =>
      rw [if_neg (by simp [toSV, SV.isN32])] at hg
      simp only [validB, Bool.and_eq_true, beq_iff_eq] at hv
      obtain ⟨rfl, h3⟩ := hv
      obtain ⟨e1, e2⟩ := zeros_b h3
      rw [hg, e1, e2]
      simp only [toSV, SV.nm, SV.oN, SV.oU, SV.oF, SV.oS, bitsV_0, nil_toList]
      simp [Kd.lit]
      try decide +kernel
    | iFloat =>
      rw [if_neg (by simp [toSV, SV.isN32])] at hg
      simp only [validB, Bool.and_eq_true, beq_iff_eq, List.isEmpty_iff] at hv
      obtain ⟨⟨rfl, rfl⟩, h3⟩ := hv
      rw [hg, h3]
      simp only [toSV, SV.nm, SV.oN, SV.oU, SV.oF, SV.oS, nil_toList]
      simp [Kd.lit]
      try decide +kernel

end Go.Proofs.YtffgkocokkhahaaDoor

/- Values that came out are the same as those that were put in; laws.sameRow of what is the same. -/
namespace Go.Proofs.YtffgkocokkhahaaDoor
open Go.RowKit

def SameL (l m : List VV) : Prop := l.length = m.length ∧ ∀ (i : Nat) (x y : VV), l[i]? = some x → m[i]? = some y → sameB x.k x.n x.u x.f x.s y.k y.n y.u y.f y.s = true

theorem out_same {x u : VV} (hc : x.conc = true) (h : OutOf x u) : sameB u.k u.n u.u u.f u.s x.k x.n x.u x.f x.s = true := by
  obtain ⟨y, hy, _, hf, h1, h2, h3, h4⟩ := h
  rw [h1, h2, h3, h4]
  exact back_same (conc_valid hc) hy hf

theorem oF_eq {K : Kd} {n u : Int} {f : Nat} {s : ByteArray} (hv : validB K n u f s = true) (hid : K.ideal = false) (hnb : numB f = true) : (toSV K n u f s).oF = f ∧ ((toSV K n u f s).oS = s ∨ (K ≠ .str ∧ K ≠ .blob)) := by
  have hbv : bitsV f = f := by unfold bitsV; rw [if_pos hnb]
  have z : zeros f s = true → 0 = f := fun h => by have := (zeros_b h).1; omega
  cases K with
  | null =>
    simp only [validB, Bool.and_eq_true, beq_iff_eq] at hv
    exact ⟨z hv.2, .inr ⟨by simp, by simp⟩⟩
  | bool =>
    simp only [validB, Bool.and_eq_true, beq_iff_eq] at hv
    exact ⟨z hv.1.2, .inr ⟨by simp, by simp⟩⟩
  | int q =>
    refine ⟨z ?_, .inr ⟨by simp, by simp⟩⟩
    cases q <;> simp only [validB, Bool.and_eq_true, beq_iff_eq] at hv <;> first | exact hv.1.2 | exact hv.2
  | f32 =>
    simp only [validB, single64, hnb, Bool.not_true, Bool.false_or, Bool.and_eq_true, beq_iff_eq] at hv
    exact ⟨hv.2.1, .inr ⟨by simp, by simp⟩⟩
  | f64 => exact ⟨rfl, .inr ⟨by simp, by simp⟩⟩
  | str =>
    simp only [validB, Bool.and_eq_true, beq_iff_eq] at hv
    exact ⟨by have := hv.1.2; show 0 = f; omega, .inl rfl⟩
  | blob =>
    simp only [validB, Bool.and_eq_true, beq_iff_eq] at hv
    exact ⟨by have := hv.1.2; show 0 = f; omega, .inl (ba_eta _)⟩
  | other => simp [validB] at hv
  | iInt => simp [Kd.ideal] at hid
  | iRune => simp [Kd.ideal] at hid
  | iUint => simp [Kd.ideal] at hid
  | iFloat => simp [Kd.ideal] at hid

theorem valid_s {K : Kd} {n u : Int} {f : Nat} {s s' : ByteArray} (hv : validB K n u f s = true) (n1 : K ≠ .str) (n2 : K ≠ .blob) (hs : s'.toList = s.toList) : validB K n u f s' = true ∧ toSV K n u f s' = toSV K n u f s := by
  cases K with
  | int q => exact ⟨by cases q <;> simpa [validB, zeros, hs] using hv, rfl⟩
  | str => exact absurd rfl n1
  | blob => exact absurd rfl n2
  | other => simp [validB] at hv
  | _ => exact ⟨by simpa [validB, zeros, hs] using hv, rfl⟩

theorem out_conc {x u : VV} (hc : x.conc = true) (hr : Rng x.n x.u x.f) (h : OutOf x u) : (u.conc = true ∧ Rng u.n u.u u.f) ∧ u.sv = x.sv := by
  have hs := out_same hc h
  obtain ⟨y, hy, _, hf, h1, h2, h3, h4⟩ := h
  obtain rfl := (conc_sv hc).1 y hy
  have hc' : concB (Kd.of x.k.toList) x.n x.u x.f x.s = true := hc
  unfold sameB at hs
  simp only [Bool.and_eq_true, beq_iff_eq] at hs
  obtain ⟨⟨⟨⟨e1, e2⟩, e3⟩, _⟩, e5⟩ := hs
  unfold VV.conc VV.sv
  rw [e1, e2, e3]
  unfold concB at hc' ⊢
  simp only [Bool.and_eq_true, Bool.not_eq_true'] at hc' ⊢
  obtain ⟨⟨hv, hid⟩, hnb⟩ := hc'
  have hn32 : (toSV (Kd.of x.k.toList) x.n x.u x.f x.s).isN32 = false := by
    have hnn : (Ieee.double.read x.f).isNaN = false := by rw [numB_nan] at hnb; simpa using hnb
    cases hk : Kd.of x.k.toList <;> first | rfl | exact down_num hnn
  unfold FOut at hf
  rw [if_neg (by rw [hn32]; decide)] at hf
  obtain ⟨h5, h6⟩ := oF_eq hv hid hnb
  rw [hf, h5]
  rcases h6 with h6 | ⟨n1, n2⟩
  · rw [h4, h6]
    exact ⟨⟨⟨⟨hv, hid⟩, hnb⟩, hr⟩, rfl⟩
  · obtain ⟨hv2, hsv⟩ := valid_s (s' := u.s) hv n1 n2 e5
    exact ⟨⟨⟨⟨hv2, hid⟩, hnb⟩, hr⟩, hsv⟩

set_option maxRecDepth 100000 in
set_option maxHeartbeats 1600000 in
theorem sameRow_true (l m : List VV) (A B : Option Addr) (c d : Nat) (w : World) (hA : LAt w A l) (hB : LAt w B m) (hs : SameL l m) (hlm : l.length ≤ 2147483647) :
    Calls Tryd.prog 19 #[.slice A l.length c, .slice B m.length d] w fun e w' => e = .returned (.bool true) ∧ Below w.heap.size w w' := by
  obtain ⟨len, hlen⟩ : ∃ len, len = l.length := ⟨_, rfl⟩
  have hlen2 : m.length = len := by rw [hlen]; exact hs.1.symm
  have HL := Lib.hid hA
  have HM := Lib.hid hB
  have HN := Lib.hid hlen
  have HN2 := Lib.hid hlen2
  have HS := Lib.hid hs.2
  rw [hlen2]
  rw [← hlen] at hlm ⊢
  clear hA hB hlen hlen2 hs
  go_enter Tryd.func19, Tryd.ntmps19
  go_wp2
  go_loopw [13] (fun i wr => ∃ k : Nat, k ≤ len ∧ i = .int .i64 k ∧ Below w.heap.size w wr) (fun i _ => len - (intOf i).toNat)
  case atStart => exact ⟨0, by omega, rfl, Below.refl _ _⟩
  case round =>
    obtain ⟨k, hk, rfl, hb⟩ := hrel
    have HB := Lib.hid hb
    by_cases hlt : k < len
    · obtain ⟨x, hx⟩ : ∃ x, l[k]? = some x := ⟨_, List.getElem?_eq_getElem (by rw [← HN.out]; exact hlt)⟩
      obtain ⟨y, hy⟩ : ∃ y, m[k]? = some y := ⟨_, List.getElem?_eq_getElem (by rw [HN2.out]; exact hlt)⟩
      obtain ⟨ad, rfl, hbl, h0, h1, h2, h3, h4⟩ := (HL.out.below hb) k x hx
      obtain ⟨bd, rfl, hbm, g0, g1, g2, g3, g4⟩ := (HM.out.below hb) k y hy
      have HC : Hid (∀ w', Calls Tryd.prog 32 #[.agg #[.string x.k, .int .i64 x.n, .int .u64 x.u, .float .f64 x.f, .string x.s], .agg #[.string y.k, .int .i64 y.n, .int .u64 y.u, .float .f64 y.f, .string y.s]] w' fun e w'' => e = .returned (.bool true) ∧ Below w'.heap.size w' w'') :=
        Lib.hid (fun w' => by have := same_any x.k x.n x.u x.f x.s y.k y.n y.u y.f y.s w'; rw [HS.out k x y hx hy] at this; exact this)
      have p0 : ∀ q : BW wr, q.w.cell? (ad.add (k * 5)) = some (.string x.k) := fun q => (q.h.cell hbl).trans h0
      have p1 : ∀ q : BW wr, q.w.cell? ⟨(ad.add (k * 5)).block, (ad.add (k * 5)).off + 1, none⟩ = some (.int .i64 x.n) := fun q => (q.h.cell (by exact hbl)).trans h1
      have p2 : ∀ q : BW wr, q.w.cell? ⟨(ad.add (k * 5)).block, (ad.add (k * 5)).off + 2, none⟩ = some (.int .u64 x.u) := fun q => (q.h.cell (by exact hbl)).trans h2
      have p3 : ∀ q : BW wr, q.w.cell? ⟨(ad.add (k * 5)).block, (ad.add (k * 5)).off + 3, none⟩ = some (.float .f64 x.f) := fun q => (q.h.cell (by exact hbl)).trans h3
      have p4 : ∀ q : BW wr, q.w.cell? ⟨(ad.add (k * 5)).block, (ad.add (k * 5)).off + 4, none⟩ = some (.string x.s) := fun q => (q.h.cell (by exact hbl)).trans h4
      have q0 : ∀ q : BW wr, q.w.cell? (bd.add (k * 5)) = some (.string y.k) := fun q => (q.h.cell hbm).trans g0
      have q1 : ∀ q : BW wr, q.w.cell? ⟨(bd.add (k * 5)).block, (bd.add (k * 5)).off + 1, none⟩ = some (.int .i64 y.n) := fun q => (q.h.cell (by exact hbm)).trans g1
      have q2 : ∀ q : BW wr, q.w.cell? ⟨(bd.add (k * 5)).block, (bd.add (k * 5)).off + 2, none⟩ = some (.int .u64 y.u) := fun q => (q.h.cell (by exact hbm)).trans g2
      have q3 : ∀ q : BW wr, q.w.cell? ⟨(bd.add (k * 5)).block, (bd.add (k * 5)).off + 3, none⟩ = some (.float .f64 y.f) := fun q => (q.h.cell (by exact hbm)).trans g3
      have q4 : ∀ q : BW wr, q.w.cell? ⟨(bd.add (k * 5)).block, (bd.add (k * 5)).off + 4, none⟩ = some (.string y.s) := fun q => (q.h.cell (by exact hbm)).trans g4
      clear hx hy hb h0 h1 h2 h3 h4 g0 g1 g2 g3 g4
      go_wp2
      refine wp_region_bw (by kernel_rfl) (by kernel_rfl) ?_
      repeat (go_big_quiet_step ((go_at_call 32; exact bw_of (HC.out _))))
      refine wpQuiet_nil ?_
      intro _ hw'
      obtain ⟨pq, hw''⟩ := hw'
      subst hw''
      go_wp2
      exact ⟨⟨k + 1, by omega, by push_cast; rfl, up_below' HB.out pq.h⟩, by simp [intOf]; omega⟩
    · have hke : k = len := by omega
      subst hke
      go_wp2
      go_ret
      exact ⟨rfl, hb⟩

theorem OutL.same {l us : List VV} (h : OutL l us) (hc : ConcL l) : SameL us l := ⟨h.1, fun i x y hx hy => out_same (hc i y hy).1 (h.2 i y x hy hx)⟩
theorem OutL.conc {l us : List VV} (h : OutL l us) (hc : ConcL l) : ConcL us := by
  intro i u hu
  have hi : i < l.length := by have := (List.getElem?_eq_some_iff.1 hu).1; rw [h.1] at this; exact this
  have hx := List.getElem?_eq_getElem hi
  exact (out_conc (hc i _ hx).1 (hc i _ hx).2 (h.2 i _ u hx hu)).1
theorem OutL.svs {l us : List VV} (h : OutL l us) (hc : ConcL l) : us.map VV.sv = l.map VV.sv := by
  refine List.ext_getElem? fun i => ?_
  rw [List.getElem?_map, List.getElem?_map]
  cases hx : l[i]? with
  | none =>
    rw [List.getElem?_eq_none (by rw [h.1]; exact List.getElem?_eq_none_iff.1 hx)]
  | some x =>
    have hi : i < us.length := by have := (List.getElem?_eq_some_iff.1 hx).1; rw [h.1]; exact this
    have hu := List.getElem?_eq_getElem hi
    rw [hu]
    show some _ = some _
    rw [(out_conc (hc i x hx).1 (hc i x hx).2 (h.2 i x _ hx hu)).2]

end Go.Proofs.YtffgkocokkhahaaDoor

/- laws.samePairs of what is the same. -/
namespace Go.Proofs.YtffgkocokkhahaaDoor
open Go.RowKit

theorem lexV_sv : ∀ (u l m : List VV), u.map VV.sv = l.map VV.sv → lexV u m = lexV l m
  | [], [], m, _ => rfl
  | [], _ :: _, _, h => by simp at h
  | _ :: _, [], _, h => by simp at h
  | a :: u, b :: l, [], _ => by simp [lexV]
  | a :: u, b :: l, c :: m, h => by
    simp only [List.map_cons, List.cons.injEq] at h
    unfold lexV
    rw [h.1, lexV_sv u l m h.2]
theorem lexV_self (l : List VV) : lexV l l = 0 := by have := lexV_anti l l; omega
theorem OutL.kc {l us : List VV} (h : OutL l us) (hc : ConcL l) (d : Bool) : kc d us l = 0 := by
  unfold Go.Proofs.YtffgkocokkhahaaDoor.kc
  rw [lexV_sv us l l (h.svs hc), lexV_self]
  simp

/-- Pairs in memory. -/
def PairsAt (w : World) (A : Option Addr) (ps : List PairV) : Prop :=
  ∀ (i : Nat) (r : PairV), ps[i]? = some r → (∃ ad, A = some ad ∧ (ad.add (i * 2)).block < w.heap.size ∧ w.cell? (ad.add (i * 2)) = some (.slice r.kA r.k.length r.kc) ∧ w.cell? ⟨(ad.add (i * 2)).block, (ad.add (i * 2)).off + 1, none⟩ = some (.slice r.vA r.v.length r.vc)) ∧ LAt w r.kA r.k ∧ LAt w r.vA r.v

theorem PairsAt.below {w w' : World} {A : Option Addr} {ps : List PairV} (h : PairsAt w A ps) (hb : Below w.heap.size w w') : PairsAt w' A ps := by
  intro i r hr
  obtain ⟨⟨ad, rfl, hlt, h0, h1⟩, hl, hv⟩ := h i r hr
  refine ⟨⟨ad, rfl, Nat.lt_of_lt_of_le hlt hb.size, ?_, ?_⟩, hl.below hb, hv.below hb⟩
  all_goals (rw [hb.cell (by exact hlt)]; assumption)

theorem pairs_reads {w : World} {A : Option Addr} {ps : List PairV} {n : Nat} (h : Reads w w.heap.size 2 A n (flat PairV.cells ps)) (hn : ps.length = n) (hv : ∀ r ∈ ps, LAt w r.kA r.k ∧ LAt w r.vA r.v) : PairsAt w A ps := by
  intro i r hr
  have hi := (List.getElem?_eq_some_iff.1 hr).1
  obtain ⟨ad, rfl, hlt, hc⟩ := h.2 (by omega)
  have hat : ∀ (j : Nat) (v : Value), j < 2 → r.cells[j]? = some v → w.cell? (ad.add (i * 2 + j)) = some v := fun j v hj hv => hc _ _ (flat_at PairV.cells 2 PairV.two ps i r j v hr hj hv)
  refine ⟨⟨ad, rfl, by rw [block_add]; exact hlt, hat 0 _ (by omega) rfl, ?_⟩, hv r (List.mem_of_getElem? hr)⟩
  rw [← madd_off ad (i * 2) 1 (by decide)]
  exact hat 1 _ (by omega) rfl

structure SameP (x y : PairV) : Prop where
  len : x.k.length = y.k.length
  ck : ConcL x.k
  dk : ConcL y.k
  kc : kc false x.k y.k = 0
  v : SameL x.v y.v
  sk : x.k.length ≤ 2147483647
  sv : x.v.length ≤ 2147483647
def SamePs (l m : List PairV) : Prop := l.length = m.length ∧ ∀ (i : Nat) (x y : PairV), l[i]? = some x → m[i]? = some y → SameP x y

set_option maxRecDepth 100000 in
set_option maxHeartbeats 1600000 in
theorem samePairs_true (l m : List PairV) (A B : Option Addr) (c d : Nat) (w : World) (hA : PairsAt w A l) (hB : PairsAt w B m) (hs : SamePs l m) (hlm : l.length ≤ 2147483647) :
    Calls Tryd.prog 23 #[.slice A l.length c, .slice B m.length d] w fun e w' => e = .returned (.bool true) ∧ Below w.heap.size w w' := by
  obtain ⟨len, hlen⟩ : ∃ len, len = l.length := ⟨_, rfl⟩
  have hlen2 : m.length = len := by rw [hlen]; exact hs.1.symm
  have HL := Lib.hid hA
  have HM := Lib.hid hB
  have HN := Lib.hid hlen
  have HN2 := Lib.hid hlen2
  have HS := Lib.hid hs.2
  rw [hlen2]
  rw [← hlen] at hlm ⊢
  clear hA hB hlen hlen2 hs
  go_enter Tryd.func23, Tryd.ntmps23
  go_wp2
  go_loopw [13] (fun i wr => ∃ k : Nat, k ≤ len ∧ i = .int .i64 k ∧ Below w.heap.size w wr) (fun i _ => len - (intOf i).toNat)
  case atStart => exact ⟨0, by omega, rfl, Below.refl _ _⟩
  case round =>
    obtain ⟨k, hk, rfl, hb⟩ := hrel
    have HB := Lib.hid hb
    by_cases hlt : k < len
    · obtain ⟨x, hx⟩ : ∃ x, l[k]? = some x := ⟨_, List.getElem?_eq_getElem (by rw [← HN.out]; exact hlt)⟩
      obtain ⟨y, hy⟩ : ∃ y, m[k]? = some y := ⟨_, List.getElem?_eq_getElem (by rw [HN2.out]; exact hlt)⟩
      obtain ⟨⟨ad, rfl, hbl, h0, h1⟩, hxk, hxv⟩ := (HL.out.below hb) k x hx
      obtain ⟨⟨bd, rfl, hbm, g0, g1⟩, hyk, hyv⟩ := (HM.out.below hb) k y hy
      have hxy := HS.out k x y hx hy
      have HC : Hid (∀ z : BW wr, Calls Tryd.prog 16 #[.slice x.kA x.k.length x.kc, .slice y.kA x.k.length y.kc, .bool false] z.w fun e w'' => e = .returned (.int .i64 0) ∧ Below z.w.heap.size z.w w'') :=
        Lib.hid (fun z => by
          have := rowsKc_any false x.k y.k x.kA y.kA x.kc y.kc hxy.len hxy.sk hxy.ck hxy.dk z.w (hxk.below z.h) (hyk.below z.h)
          rw [hxy.kc, ← hxy.len] at this
          exact this)
      have HR : Hid (∀ z : BW wr, Calls Tryd.prog 19 #[.slice x.vA x.v.length x.vc, .slice y.vA y.v.length y.vc] z.w fun e w'' => e = .returned (.bool true) ∧ Below z.w.heap.size z.w w'') :=
        Lib.hid (fun z => sameRow_true x.v y.v x.vA y.vA x.vc y.vc z.w (hxv.below z.h) (hyv.below z.h) hxy.v hxy.sv)
      rw [← hxy.len] at g0
      have p0 : ∀ q : BW wr, q.w.cell? (ad.add (k * 2)) = some (.slice x.kA x.k.length x.kc) := fun q => (q.h.cell hbl).trans h0
      have p1 : ∀ q : BW wr, q.w.cell? ⟨(ad.add (k * 2)).block, (ad.add (k * 2)).off + 1, none⟩ = some (.slice x.vA x.v.length x.vc) := fun q => (q.h.cell (by exact hbl)).trans h1
      have q0 : ∀ q : BW wr, q.w.cell? (bd.add (k * 2)) = some (.slice y.kA x.k.length y.kc) := fun q => (q.h.cell hbm).trans g0
      have q1 : ∀ q : BW wr, q.w.cell? ⟨(bd.add (k * 2)).block, (bd.add (k * 2)).off + 1, none⟩ = some (.slice y.vA y.v.length y.vc) := fun q => (q.h.cell (by exact hbm)).trans g1
      clear hx hy hb h0 h1 g0 g1 hxk hxv hyk hyv hxy
      go_wp2
      refine wp_region_bw (by kernel_rfl) (by kernel_rfl) ?_
      repeat (go_big_quiet_step ((first | (go_at_call 16; exact bw_of (HC.out _)) | (go_at_call 19; exact bw_of (HR.out _)))))
      refine wpQuiet_nil ?_
      intro _ hw'
      obtain ⟨pq, hw''⟩ := hw'
      subst hw''
      go_wp2
      exact ⟨⟨k + 1, by omega, by push_cast; rfl, up_below' HB.out pq.h⟩, by simp [intOf]; omega⟩
    · have hke : k = len := by omega
      subst hke
      go_wp2
      go_ret
      exact ⟨rfl, hb⟩

end Go.Proofs.YtffgkocokkhahaaDoor

/- laws.backPairs. -/
namespace Go.Proofs.YtffgkocokkhahaaDoor
open Go.RowKit

theorem reads_pair1 (w : World) (r : PairV) (t : TypeId) : Reads (w.alloc (.cells #[.slice r.kA r.k.length r.kc, .slice r.vA r.v.length r.vc] t)) (w.heap.size + 1) 2 (some ⟨w.heap.size, 0, none⟩) 1 r.cells :=
  ⟨rfl, fun _ => ⟨_, rfl, Nat.lt_succ_self _, fun j u hu => World.news_of_block (heap_new w _) j u hu⟩⟩

/-- A row of pairs in memory made since. -/
def PairsOwn (ps : List PairV) (w : World) (y : Ending) (w' : World) : Prop :=
  ∃ A c, y = .returned (.slice A ps.length c) ∧ w'.ownsRow w.heap.size 66 2 (.slice A ps.length c) ps.length (flat PairV.cells ps) ∧ Below w.heap.size w w'

theorem back_at {l : List PairV} {g k j : Nat} {r : PairV} (hg : g ≤ l.length) (hj : j + k + 1 = g) (hr : l[j]? = some r) : (l.take g).reverse.take (k + 1) = (l.take g).reverse.take k ++ [r] := by
  refine take_snoc' ?_
  have hl : (l.take g).length = g := by simp; omega
  rw [List.getElem?_reverse (by omega), hl, show g - 1 - k = j by omega, List.getElem?_take_of_lt (by omega)]
  exact hr

set_option maxRecDepth 100000 in
set_option maxHeartbeats 1600000 in
theorem backPairs_any (l : List PairV) (A : Option Addr) (c g : Nat) (n : Int) (w : World) (hA : PairsAt w A l) (hg : g ≤ l.length) (hl : l.length ≤ 100000) (h0 : 0 ≤ n) (hn1 : n ≤ 100000) :
    Calls Tryd.prog 24 #[.slice A l.length c, .int .i64 ((g : Int) - 1), .int .i64 n] w (PairsOwn ((l.take g).reverse.take n.toNat) w) := by
  obtain ⟨i0, hi, hz0, hz1, hz2⟩ := info_parts info_pair
  unfold PairsOwn
  obtain ⟨ps, hps⟩ : ∃ ps, ps = (l.take g).reverse.take n.toNat := ⟨_, rfl⟩
  obtain ⟨m, hm⟩ : ∃ m, m = ps.length := ⟨_, rfl⟩
  have HP := Lib.hid hps
  have HM := Lib.hid hm
  rw [← hps, ← hm]
  clear hps hm
  obtain ⟨len, hlen⟩ : ∃ len, len = l.length := ⟨_, rfl⟩
  have HL := Lib.hid hA
  have HN := Lib.hid hlen
  have HG := Lib.hid hg
  rw [← hlen] at hl hg ⊢
  clear hA hlen
  go_enter Tryd.func24, Tryd.ntmps24
  go_wp2
  go_loopw [7, 8] (fun rv i wr => ∃ (k : Nat) (I : Int), i = .int .i64 I ∧ I + k + 1 = g ∧ -1 ≤ I ∧ (k : Int) ≤ n ∧ wr.ownsRow w.heap.size 66 2 rv k (flat PairV.cells ((l.take g).reverse.take k)) ∧ Below w.heap.size w wr) (fun _ i _ => (intOf i + 1).toNat)
  case atStart => exact ⟨0, (g : Int) - 1, rfl, by omega, by omega, h0, by simpa [flat] using World.ownsRow_nil _ _ _ _, Below.refl _ _⟩
  case round =>
    obtain ⟨k, I, rfl, hI, hI1, hkn, hown, hb⟩ := hrel
    obtain ⟨A', c', rfl⟩ := own_form hown
    have HO := Lib.hid hown
    have HB := Lib.hid hb
    have HI := Lib.hid hI
    have hs := hb.size
    by_cases hI0 : 0 ≤ I
    · obtain ⟨j, rfl⟩ : ∃ j : Nat, I = j := ⟨I.toNat, by omega⟩
      have hjg : j < len := by omega
      by_cases hlt : (k : Int) < n
      · obtain ⟨x, hx⟩ : ∃ x, l[j]? = some x := ⟨_, List.getElem?_eq_getElem (by rw [← HN.out]; exact hjg)⟩
        obtain ⟨⟨ad, rfl, hbl, h1, h2⟩, _⟩ := (HL.out.below hb) j x hx
        have HS := Lib.hid (back_at (k := k) HG.out (by omega) hx)
        have hw : IntKind.i64.wrap ((j : Int) - 1) = (j : Int) - 1 := IntWalk.i64_in _ (by omega)
        have hk9 : k ≤ 100000 := by omega
        clear hown hb hx hI hI1 hI0 hg
        go_wp2_with (first
          | (at_builtin
             refine wpList_append_any _ rfl (.tmp 20) (.tmp 25) _ rfl w.heap.size 66 i0 _ 2 48 Tryd.underlying31 hi hz0 hz1 hz2 rfl (by omega) _ k (flat PairV.cells ((l.take g).reverse.take k)) rfl
               (HO.out.alloc _) (wr.heap.size + 1) (some ⟨wr.heap.size, 0, none⟩) 1 1 x.cells rfl (reads_pair1 _ _ _) (fun u hu => by simp [PairV.cells] at hu; rcases hu with rfl | rfl <;> rfl) (by simp only [maxLen]; omega) (by omega) (by simp; omega) ?_
             intro v3 w3 hown3 hg3 hat3
             have HO3 := Lib.hid hown3; have HG3 := Lib.hid hg3; have HA3 := Lib.hid hat3; clear hown3 hg3 hat3))
        refine ⟨⟨k + 1, (j : Int) - 1, rfl, by have := HI.out; push_cast; omega, by omega, by omega, ?_, ?_⟩, by simp [intOf] <;> omega⟩
        · rw [HS.out]
          have e1 : flat PairV.cells ((l.take g).reverse.take k ++ [x]) = flat PairV.cells ((l.take g).reverse.take k) ++ x.cells := by simp [flat]
          rw [e1]
          exact HO3.out
        · have hc : Chg (fun z => (Value.ownBlock _) = some z) wr w3 := ((Chg.refl _ wr).alloc _).next (Chg.of_grown HG3.out) (fun z _ h => h.symm)
          exact HB.out.trans (hc.below hs (fun z hz => own_ge HO.out hz))
      · have hkn' : (k : Int) = n := by omega
        have hnk : n.toNat = k := by omega
        have hpk : ps = (l.take g).reverse.take k := by rw [HP.out, hnk]
        have hmk : m = k := by rw [HM.out, hpk]; simp; have := HI.out; have := HN.out; omega
        clear hown hb hI hI1 hg
        go_wp2
        go_ret
        exact ⟨A', c', by first | rfl | rw [hmk], by first | exact HO.out | (rw [hmk, hpk]; exact HO.out) | (rw [hpk]; exact HO.out), HB.out⟩
    · have hI2 : I = -1 := by omega
      subst hI2
      have hkg : k = g := by omega
      have hl1 : (l.take g).reverse.length = g := by have := HN.out; simp; omega
      have hpk : ps = (l.take g).reverse.take k := HP.out.trans ((List.take_of_length_le (by rw [hl1]; omega)).trans (List.take_of_length_le (by rw [hl1]; omega)).symm)
      have hmk : m = k := by rw [HM.out, hpk, List.length_take, hl1]; omega
      clear hown hb hI hI1 hg
      go_wp2
      go_ret
      exact ⟨A', c', by first | rfl | rw [hmk], by first | exact HO.out | (rw [hmk, hpk]; exact HO.out) | (rw [hpk]; exact HO.out) | (subst hkg; exact HO.out), HB.out⟩

end Go.Proofs.YtffgkocokkhahaaDoor

/- laws.grows. -/
namespace Go.Proofs.YtffgkocokkhahaaDoor
open Go.RowKit

theorem VV.five (x : VV) : x.cells.length = 5 := rfl
theorem lat_reads {w : World} {A : Option Addr} {l : List VV} {n : Nat} (h : Reads w w.heap.size 5 A n (flat VV.cells l)) (hn : l.length = n) : LAt w A l := by
  intro i x hx
  have hi := (List.getElem?_eq_some_iff.1 hx).1
  obtain ⟨ad, rfl, hlt, hc⟩ := h.2 (by omega)
  have hat : ∀ (j : Nat) (v : Value), j < 5 → x.cells[j]? = some v → w.cell? (ad.add (i * 5 + j)) = some v := fun j v hj hv => hc _ _ (flat_at VV.cells 5 VV.five l i x j v hx hj hv)
  refine ⟨ad, rfl, by rw [block_add]; exact hlt, hat 0 _ (by omega) rfl, ?_, ?_, ?_, ?_⟩
  · rw [← madd_off ad (i * 5) 1 (by decide)]; exact hat 1 _ (by omega) rfl
  · rw [← madd_off ad (i * 5) 2 (by decide)]; exact hat 2 _ (by omega) rfl
  · rw [← madd_off ad (i * 5) 3 (by decide)]; exact hat 3 _ (by omega) rfl
  · rw [← madd_off ad (i * 5) 4 (by decide)]; exact hat 4 _ (by omega) rfl

theorem lat_block {w : World} {b : Nat} {x : VV} {fr : Nat × Nat} (h : w.heap[b]? = some (.cells #[.string x.k, .int .i64 x.n, .int .u64 x.u, .float .f64 x.f, .string x.s] 58 fr)) : LAt w (some ⟨b, 0, none⟩) [x] :=
  lat_reads (n := 1) ⟨rfl, fun _ => ⟨_, rfl, lt_of_heap h, fun j u hu => World.news_of_block (cs := #[.string x.k, .int .i64 x.n, .int .u64 x.u, .float .f64 x.f, .string x.s]) h j u (by simpa [flat, VV.cells] using hu)⟩⟩ rfl

def growL : List TD := [⟨.set, [numV 1], [numV 2], 0⟩, ⟨.get, [numV 1], [], 0⟩]

theorem grow_run : runT false [] (growL.take 1) = [⟨[numV 1], [numV 2]⟩] := rfl
theorem grow_ans : ansT false (runT false [] (growL.take 1)) ⟨.get, [numV 1], [], 0⟩ = ⟨some true, none, some [numV 2], none⟩ := by
  rw [grow_run]
  have h : kc false [numV 1] [numV 1] = 0 := by unfold kc; simp [lexV_self]
  have hp : placeP false [numV 1] [⟨[numV 1], [numV 2]⟩] = 0 := by simp [placeP, h]
  have ht : thereP false [numV 1] [⟨[numV 1], [numV 2]⟩] = true := by simp [thereP, hp, h]
  simp [ansT, ht, hp]
theorem grow_says {a : TAV} {av : List TAV} (h : TAnsAll false growL av) (ha : av[1]? = some a) : a.is = true ∧ OutL [numV 2] a.us := by
  have hs := h 1 a ⟨.get, [numV 1], [], 0⟩ ha rfl
  rw [grow_ans] at hs
  exact ⟨hs.is true rfl, hs.v _ rfl⟩

theorem lat_nil (w : World) (A : Option Addr) : LAt w A [] := fun i x hx => by simp at hx
theorem grow_fit : ∀ d ∈ [(⟨⟨.set, [numV 1], [numV 2], 0⟩, none, 0, none, 0⟩ : TDV), ⟨⟨.get, [numV 1], [], 0⟩, none, 0, none, 0⟩], TFit 1 d.x := by
  intro d hd
  simp at hd
  rcases hd with rfl | rfl
  · exact ⟨fun _ => ⟨rfl, numV_conc.1⟩, numV_conc.2.1, by simp, by simp, by simp, fun h => by simp at h⟩
  · exact ⟨fun _ => ⟨rfl, numV_conc.1⟩, fun j x hx => by simp at hx, by simp, by simp, by simp, fun h => by simp at h⟩

end Go.Proofs.YtffgkocokkhahaaDoor

/- laws.grows: the walk. -/
namespace Go.Proofs.YtffgkocokkhahaaDoor
open Go.RowKit

def numCells (n : Int) : Array Value := #[.string int64S, .int .i64 n, .int .u64 0, .float .f64 0, .string empS]

theorem grow_deeds {w : World} {k v q b : Nat} (hk : w.heap[k]? = some (.cells (numCells 1) 58 (0, 0))) (hv : w.heap[v]? = some (.cells (numCells 2) 58 (0, 0))) (hq : w.heap[q]? = some (.cells (numCells 1) 58 (0, 0)))
    (hb : w.heap[b]? = some (.cells #[.string ⟨#[115, 101, 116]⟩, .slice (some ⟨k, 0, none⟩) 1 1, .slice (some ⟨v, 0, none⟩) 1 1, .int .i64 0, .string ⟨#[103, 101, 116]⟩, .slice (some ⟨q, 0, none⟩) 1 1, .slice none 0 0, .int .i64 0] 27 (0, 0))) :
    TDeedsAt w (some ⟨b, 0, none⟩) [⟨⟨.set, [numV 1], [numV 2], 0⟩, some ⟨k, 0, none⟩, 1, some ⟨v, 0, none⟩, 1⟩, ⟨⟨.get, [numV 1], [], 0⟩, some ⟨q, 0, none⟩, 1, none, 0⟩] := by
  refine tdeeds_reads (n := 2) ⟨rfl, fun _ => ⟨_, rfl, lt_of_heap hb, fun j u hu => World.news_of_block hb j u hu⟩⟩ rfl (fun d hd => ?_)
  simp at hd
  rcases hd with rfl | rfl
  · exact ⟨lat_block (x := numV 1) hk, lat_block (x := numV 2) hv⟩
  · exact ⟨lat_block (x := numV 1) hq, lat_nil _ _⟩

theorem grow_fit' (k v q : Nat) : ∀ d ∈ [(⟨⟨.set, [numV 1], [numV 2], 0⟩, some ⟨k, 0, none⟩, 1, some ⟨v, 0, none⟩, 1⟩ : TDV), ⟨⟨.get, [numV 1], [], 0⟩, some ⟨q, 0, none⟩, 1, none, 0⟩], TFit 1 d.x := by
  intro d hd
  simp at hd
  rcases hd with rfl | rfl
  · exact grow_fit ⟨⟨.set, [numV 1], [numV 2], 0⟩, none, 0, none, 0⟩ (List.mem_cons_self ..)
  · exact grow_fit ⟨⟨.get, [numV 1], [], 0⟩, none, 0, none, 0⟩ (List.mem_cons_of_mem _ (List.mem_cons_self ..))

theorem grow_tree {w : World} {k v q b : Nat} {E : Value} (hE : HasEof w E) (hd : TDeedsAt w (some ⟨b, 0, none⟩) [⟨⟨.set, [numV 1], [numV 2], 0⟩, some ⟨k, 0, none⟩, 1, some ⟨v, 0, none⟩, 1⟩, ⟨⟨.get, [numV 1], [], 0⟩, some ⟨q, 0, none⟩, 1, none, 0⟩]) :
    Calls Tryd.prog 9 #[.bool false, .slice (some ⟨b, 0, none⟩) 2 2] w fun y w' => ∃ A c us R rc, y = .returned (.slice (some A) 2 c) ∧ (A.add (1 * 4)).block < w'.heap.size ∧ w'.cell? (A.add (1 * 4)) = some (.bool true) ∧ w'.cell? ⟨(A.add (1 * 4)).block, (A.add (1 * 4)).off + 2, none⟩ = some (.slice R 1 rc) ∧ LAt w' R us ∧ us.length = 1 ∧ SameL us [numV 2] ∧ Below w.heap.size w w' := by
  refine (tree_any (dsc := false) (n := 1) (c := 2) (by omega) (grow_fit' k v q) (by simp) hE hd).mono ?_
  rintro y w' ⟨A, c, av, D, rfl, hown, hlen, hans, hin, hD, hb⟩
  have hr := Reads.of_own hown
  obtain ⟨ad, rfl, hlt, hc⟩ := hr.2 (by simp)
  have hl2 : av.length = 2 := hlen
  obtain ⟨a, ha⟩ : ∃ a, av[1]? = some a := ⟨_, List.getElem?_eq_getElem (by omega)⟩
  obtain ⟨h1, h2⟩ := grow_says hans ha
  have hat : ∀ (j : Nat) (v : Value), j < 4 → a.cells[j]? = some v → w'.cell? (ad.add (1 * 4 + j)) = some v := fun j v hj hv => hc _ _ (flat_at TAV.cells 4 TAV.four av 1 a j v ha hj hv)
  have hu1 : a.us.length = 1 := h2.1
  refine ⟨ad, c, a.us, a.R, a.c, rfl, by rw [block_add]; exact hlt, ?_, ?_, lat_reads (hin a (List.mem_of_getElem? ha)).vals.reads rfl, hu1, h2.same numV_conc.2.1, hb⟩
  · have := hat 0 (.bool a.is) (by omega) rfl
    rw [h1] at this
    exact this
  · have := hat 2 (.slice a.R a.us.length a.c) (by omega) rfl
    rw [madd_off ad (1 * 4) 2 (by decide), hu1] at this
    exact this


set_option maxRecDepth 100000 in
set_option maxHeartbeats 1600000 in
theorem grows_any {w : World} {E : Value} (hE : HasEof w E) : Calls Tryd.prog 6 #[] w fun e w' => e = .returned (.bool true) ∧ Below w.heap.size w w' := by
  have HE := Lib.hid hE
  clear hE
  go_enter Tryd.func6, Tryd.ntmps6
  go_wp2_with (first
    | (go_at_call_of 18 (#[Value.int .i64 2])
       refine (num_any 2 _).mono ?_
       rintro e w2 ⟨rfl, hb2⟩
       have HK2 := Lib.hid (heap_below (heap_new w1 _) hb2)
       have HB2 : Hid (Below w.heap.size w w2) := Lib.hid (up_below' (HB1.out.alloc HB1.out.size _) hb2)
       clear hb2)
    | (go_at_call_of 18 (#[Value.int .i64 1])
       refine (num_any 1 _).mono ?_
       rintro e w1 ⟨rfl, hb1⟩
       have HB1 : Hid (Below w.heap.size w w1) := Lib.hid hb1
       clear hb1))
  refine (num_any 1 _).mono ?_
  rintro e w3 ⟨rfl, hb3⟩
  have l2 := lt_of_heap HK2.out
  have HK3 := Lib.hid (heap_below ((heap_alloc_ne w2 w1.heap.size (.cells (numCells 2) 58) (by omega)).trans HK2.out) hb3)
  have HV3 := Lib.hid (heap_below (heap_new w2 _) hb3)
  have HB3 : Hid (Below w.heap.size w w3) := Lib.hid (up_below' (HB2.out.alloc HB2.out.size _) hb3)
  clear hb3 l2
  go_wp2_with fail
  obtain ⟨X, hX⟩ : ∃ X, X = (w3.alloc (.cells (numCells 1) 58)).alloc (.cells #[.string ⟨#[115, 101, 116]⟩, .slice (some ⟨w1.heap.size, 0, none⟩) 1 1, .slice (some ⟨w2.heap.size, 0, none⟩) 1 1, .int .i64 0, .string ⟨#[103, 101, 116]⟩, .slice (some ⟨w3.heap.size, 0, none⟩) 1 1, .slice none 0 0, .int .i64 0] 27) := ⟨_, rfl⟩
  change Calls Tryd.prog 9 _ ((w3.alloc (.cells (numCells 1) 58)).alloc _) _
  rw [← hX]
  have l1 := lt_of_heap HK3.out
  have l2 := lt_of_heap HV3.out
  have BX : Below w3.heap.size w3 X := by rw [hX]; exact below_al2' w3 _ _
  have x1 := heap_below HK3.out BX
  have x2 := heap_below HV3.out BX
  have x3 : X.heap[w3.heap.size]? = some (.cells (numCells 1) 58 (0, 0)) := by rw [hX]; exact (heap_alloc_ne _ _ _ (by simp)).trans (heap_new w3 _)
  have x4 : X.heap[w3.heap.size + 1]? = some (.cells #[.string ⟨#[115, 101, 116]⟩, .slice (some ⟨w1.heap.size, 0, none⟩) 1 1, .slice (some ⟨w2.heap.size, 0, none⟩) 1 1, .int .i64 0, .string ⟨#[103, 101, 116]⟩, .slice (some ⟨w3.heap.size, 0, none⟩) 1 1, .slice none 0 0, .int .i64 0] 27 (0, 0)) := by
    rw [hX]
    have := heap_new (w3.alloc (.cells (numCells 1) 58)) (.cells #[.string ⟨#[115, 101, 116]⟩, .slice (some ⟨w1.heap.size, 0, none⟩) 1 1, .slice (some ⟨w2.heap.size, 0, none⟩) 1 1, .int .i64 0, .string ⟨#[103, 101, 116]⟩, .slice (some ⟨w3.heap.size, 0, none⟩) 1 1, .slice none 0 0, .int .i64 0] 27)
    simpa using this
  have BXw := up_below' HB3.out BX
  refine (grow_tree (HE.out.below BXw) (grow_deeds x1 x2 x3 x4)).mono ?_
  rintro y w4 ⟨A, c, us, R, rc, rfl, hblk, hc0, hc2, hlat, hul, hsame, hb4⟩
  have hc0' : w4.cell? ⟨A.block, A.off + 4, none⟩ = some (.bool true) := hc0
  have hc2' : w4.cell? ⟨A.block, A.off + 6, none⟩ = some (.slice R 1 rc) := hc2
  have hc3' : w4.cell? ⟨A.block, A.off + 4 + 2, none⟩ = some (.slice R 1 rc) := hc2
  have HB4 : Hid (Below w.heap.size w w4) := Lib.hid (up_below' BXw hb4)
  have HS : Hid (∀ (b : Nat) (w' : World), Below w4.heap.size w4 w' → w'.heap[b]? = some (.cells (numCells 2) 58 (0, 0)) → Calls Tryd.prog 19 #[.slice R 1 rc, .slice (some ⟨b, 0, none⟩) 1 1] w' fun e w'' => e = .returned (.bool true) ∧ Below w'.heap.size w' w'') := Lib.hid (fun b w' hb hh => by
    have := sameRow_true us [numV 2] R (some ⟨b, 0, none⟩) rc 1 w' (hlat.below hb) (lat_block (x := numV 2) hh) hsame (by omega)
    rw [hul] at this
    exact this)
  clear hc0 hc2 hX x1 x2 x3 x4 BX BXw l1 l2 HK2 HK3 HV3 HB1 HB2 HB3 HE hlat hul hsame hb4
  go_wp2_with fail
  go_region_law
    (first
      | (go_simp; go_at_call 18
         refine (num_any 2 _).mono ?_
         rintro e w5 ⟨rfl, hb5'⟩
         have hb5 : Below w4.heap.size w4 w5 := (by first | exact hb5' | exact ⟨hb5'.os, hb5'.tape, hb5'.output, hb5'.size, hb5'.block⟩)
         have HB5 := Lib.hid hb5
         have g2p : w5.cell? ⟨A.block, A.off + 6, none⟩ = some (.slice R 1 rc) := (hb5.cell (p := ⟨A.block, A.off + 6, none⟩) (by exact hblk)).trans hc2'
         have g3p : (w5.alloc (.cells #[.string int64S, .int .i64 2, .int .u64 0, .float .f64 0, .string empS] 58)).cell? ⟨A.block, A.off + 6, none⟩ = some (.slice R 1 rc) := (((Below.refl w5.heap.size w5).alloc (Nat.le_refl _) _).cell (p := ⟨A.block, A.off + 6, none⟩) (by have := hb5.size; exact Nat.lt_of_lt_of_le hblk this)).trans g2p
         have g2q : w5.cell? ⟨A.block, A.off + 4 + 2, none⟩ = some (.slice R 1 rc) := (hb5.cell (p := ⟨A.block, A.off + 4 + 2, none⟩) (by exact hblk)).trans hc2'
         have g3q : (w5.alloc (.cells #[.string int64S, .int .i64 2, .int .u64 0, .float .f64 0, .string empS] 58)).cell? ⟨A.block, A.off + 4 + 2, none⟩ = some (.slice R 1 rc) := (((Below.refl w5.heap.size w5).alloc (Nat.le_refl _) _).cell (p := ⟨A.block, A.off + 4 + 2, none⟩) (by have := hb5.size; exact Nat.lt_of_lt_of_le hblk this)).trans g2q
         clear hb5 hb5')
      | (go_simp; go_at_call 19
         refine (HS.out w5.heap.size _ (HB5.out.alloc HB5.out.size _) (heap_new w5 _)).mono ?_
         rintro e w6 ⟨rfl, hb6⟩
         have HB6 : Hid (Below w.heap.size w w6) := Lib.hid (up_below' (up_below' HB4.out (HB5.out.alloc HB5.out.size _)) hb6)
         clear hb6))
  all_goals
    go_wp2
    go_ret
    exact ⟨rfl, HB6.out⟩

end Go.Proofs.YtffgkocokkhahaaDoor
