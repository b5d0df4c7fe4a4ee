/-
  laws.filled: the deeds that put rows into an index. || A valid value that is brought (as Back, without a law's walk) into the database and out again is the same. No condition but that it is valid. || Rows that came out of an index are the same as those that were put in. || laws.sameRow and laws.sameIndex, of what is the same; laws.back. || What the walk of laws.FnIndexOrder asks of its callees. || The walk of laws.FnIndexOrder: it returns true.
-/
import Derived.Test.YtffgkocokkhahaaGreatDoorIxo18
import Derived.Test.YtffgkocokkhahaaGreatDoorIxo07
import Derived.Test.YtffgkocokkhahaaGreatDoorIxo17
import Derived.Deep.CutRange
import Derived.Deep.RegionLaw

/- laws.filled: the deeds that put rows into an index. -/
namespace Go.Proofs.YtffgkocokkhahaaGreatDoor
open Go.RowKit

set_option maxRecDepth 100000 in
set_option maxHeartbeats 3200000 in
theorem filled_any (rows : List RowV) (A : Option Addr) (c : Nat) (n : Int) (w : World) (hl : RowsAt w A rows) (hr : ∀ r ∈ rows, RowRng r) :
    Calls Tryz.prog 11 #[.slice A rows.length c, .int .i64 n] w (FilledP rows n w) := by
  obtain ⟨i0, hi, hz0, hz1, hz2⟩ := info_parts info_ideed
  obtain ⟨len, hlen⟩ : ∃ len, len = rows.length := ⟨_, rfl⟩
  have HL := Lib.hid hl
  have HN := Lib.hid hlen
  have HR := Lib.hid hr
  have HG := Lib.hid (fun (nn : Nat) (hn : n = nn) h1 h2 => good_of hn hr h1 h2)
  unfold FilledP
  rw [← hlen] at HG ⊢
  clear hl hlen hr
  go_enter Tryz.func11, Tryz.ntmps11
  by_cases g1 : 600 < len
  · go_wp2
    go_ret2
    exact .inl ⟨rfl, Below.refl _ _⟩
  by_cases g2 : n < 1
  · go_wp2
    go_ret2
    exact .inl ⟨rfl, Below.refl _ _⟩
  by_cases g3 : 3 < n
  · go_wp2
    go_ret2
    exact .inl ⟨rfl, Below.refl _ _⟩
  go_wp2
  go_loopw [6, 22] (fun out i wr => ∃ k : Nat, k ≤ len ∧ i = .int .i64 k ∧ wr.ownsRow w.heap.size 43 4 out k (flat DeedV.cells ((rows.take k).map RowV.deed)) ∧ Below w.heap.size w wr ∧ (∀ (j : Nat) (r : RowV), j < k → rows[j]? = some r → isKeyB r.us n = true ∧ 1 ≤ r.h) ∧ (∀ (i j : Nat) (a b : RowV), i < j → j < k → rows[i]? = some a → rows[j]? = some b → (a.h == b.h) = false)) (fun _ i _ => len - (intOf i).toNat)
  case atStart => exact ⟨0, by omega, rfl, World.ownsRow_nil _ _ _ _, Below.refl _ _, fun _ _ h => by omega, fun _ _ _ _ _ h => by omega⟩
  case round =>
    obtain ⟨k, hk, rfl, hown, hb, hall, hne⟩ := hrel
    have HO := Lib.hid hown
    have HB := Lib.hid hb
    have HA := Lib.hid hall
    have HD := Lib.hid hne
    have hs := hb.size
    clear hown hall hne
    by_cases hlt : k < len
    · obtain ⟨r, hx'⟩ : ∃ r, rows[k]? = some r := ⟨_, List.getElem?_eq_getElem (by rw [← HN.out]; exact hlt)⟩
      have HX := Lib.hid hx'
      obtain ⟨⟨ad, rfl, hbl, h0, h1⟩, hl⟩ := (HL.out.below hb) k r hx'
      have hrr := (HR.out r (List.mem_of_getElem? hx')).len
      have HK := Lib.hid (isKey_any r.us r.A r.c n wr hl (by unfold maxLen at hrr; omega))
      clear hx' hl hb hrr
      cases hkey : isKeyB r.us n with
      | false =>
        rw [hkey] at HK
        go_wp2_with (go_at_call 24; refine HK.out.mono ?_; rintro e w1 ⟨rfl, hb1⟩)
        go_ret2
        exact .inl ⟨rfl, up_below' HB.out hb1⟩
      | true =>
        rw [hkey] at HK
        by_cases hlo : r.h < 1
        · go_wp2_with (go_at_call 24; refine HK.out.mono ?_; rintro e w1 ⟨rfl, hb1⟩; have k1 := (hb1.cell (by exact hbl)).trans h1)
          go_ret2
          exact .inl ⟨rfl, up_below' HB.out hb1⟩
        · go_wp2_with (go_at_call 24; refine HK.out.mono ?_; rintro e w1 ⟨rfl, hb1⟩; have k0 := (hb1.cell hbl).trans h0; have k1 := (hb1.cell (by exact hbl)).trans h1; have hbl1 := Nat.lt_of_lt_of_le hbl hb1.size; have HB1 := Lib.hid (up_below' HB.out hb1); have HO1 := Lib.hid (own_below HO.out hb1))
          clear h0 h1 hbl hb1
          go_loopw [42] (fun j wi => ∃ q : Nat, q ≤ k ∧ j = .int .i64 q ∧ Below w1.heap.size w1 wi ∧ ∀ (p : Nat) (a : RowV), p < q → rows[p]? = some a → (a.h == r.h) = false) (fun j _ => k - (intOf j).toNat)
          case atStart => exact ⟨0, by omega, rfl, Below.refl _ _, fun _ _ h => by omega⟩
          case round =>
            obtain ⟨q, hq, rfl, hbi, hnq⟩ := hrel
            have HQ := Lib.hid hnq
            have HBI := Lib.hid hbi
            have m0 := (hbi.cell hbl1).trans k0
            have m1 := (hbi.cell (by exact hbl1)).trans k1
            have hblq := Nat.lt_of_lt_of_le hbl1 hbi.size
            clear hnq
            by_cases hqk : q < k
            · obtain ⟨a, ha'⟩ : ∃ a, rows[q]? = some a := ⟨_, List.getElem?_eq_getElem (by rw [← HN.out]; omega)⟩
              obtain ⟨⟨ad2, had, hbl2, _, g1'⟩, _⟩ := (HL.out.below (up_below' HB1.out hbi)) q a ha'
              obtain rfl : ad = ad2 := Option.some.inj had
              have HAQ := Lib.hid ha'
              have p1 : ∀ z : BW wr, z.w.cell? ⟨(ad.add (k * 2)).block, (ad.add (k * 2)).off + 1, none⟩ = some (.int .i64 r.h) := fun z => (z.h.cell (by exact hblq)).trans m1
              have p2 : ∀ z : BW wr, z.w.cell? ⟨(ad.add (q * 2)).block, (ad.add (q * 2)).off + 1, none⟩ = some (.int .i64 a.h) := fun z => (z.h.cell (by exact hbl2)).trans g1'
              have hql : q < len := by omega
              clear ha' had hbi g1' m1
              cases he : (a.h == r.h) with
              | true =>
                go_wp2
                refine wp_region_bw (by kernel_rfl) (by kernel_rfl) ?_
                repeat (go_big_quiet_step ((first | fail)))
                refine wpQuiet_nil ?_
                intro _ hw'
                obtain ⟨pq, hw''⟩ := hw'
                subst hw''
                go_wp2
                go_ret2
                exact .inl ⟨rfl, up_below' (up_below' HB1.out HBI.out) pq.h⟩
              | false =>
                have HE := Lib.hid he
                go_wp2
                refine wp_region_bw (by kernel_rfl) (by kernel_rfl) ?_
                repeat (go_big_quiet_step ((first | fail)))
                refine wpQuiet_nil ?_
                intro _ hw'
                obtain ⟨pq, hw''⟩ := hw'
                subst hw''
                go_wp2
                refine ⟨⟨q + 1, by omega, by push_cast; rfl, up_below' HBI.out pq.h, fun j y hj hy => ?_⟩, by simp [intOf]; omega⟩
                rcases Nat.lt_or_ge j q with h | h
                · exact HQ.out j y h hy
                · obtain rfl : j = q := by omega
                  obtain rfl : y = a := Option.some.inj (hy.symm.trans HAQ.out)
                  exact HE.out
            · have hqe : q = k := by omega
              subst hqe
              have HOI := Lib.hid (own_below HO1.out hbi)
              have HBB := Lib.hid (up_below' HB1.out hbi)
              have hsb := HBB.out.size
              clear hbi
              go_wp2
              go_region_law
                (first
                  | (refine step_append_lies _ (by rfl) _ _ _ (by rfl) w.heap.size 43 i0 _ 4 56 Tryz.underlying39 hi hz0 hz1 hz2 rfl (by omega) _ q (flat DeedV.cells ((rows.take q).map RowV.deed)) (by rfl) (HOI.out.alloc _)
                      ⟨wr.heap.size, 0, none⟩ 1 1 [.string ⟨#[99, 114, 101, 97, 116, 101]⟩, .slice r.A r.us.length r.c, .int .i64 r.h, .int .i64 0] (by rfl) (by rfl) (World.news_of_block (cs := #[.string ⟨#[99, 114, 101, 97, 116, 101]⟩, .slice r.A r.us.length r.c, .int .i64 r.h, .int .i64 0]) (t := 43) (fr := (0, 0)) (heap_new _ _)) (by simp [Value.oneCell'])
                      (by omega) (by simp only [maxLen]; omega) (by omega) (by simp; omega) (wr.heap.size + 1) (by simp) ?_
                     intro gg cap w3 hown3 hgrow hat hlt3
                     have HG3 := Lib.hid hgrow
                     have HO3 := Lib.hid hown3
                     clear hgrow hown3)
                  | fail)
              all_goals
                go_wp2
                refine ⟨⟨q + 1, by omega, by push_cast; rfl, ?_, ?_, fun j y hj hy => ?_, fun i j a b hij hj ha hb => ?_⟩, by simp [intOf]; omega⟩
                · rw [take_snoc HX.out, List.map_append, flat_append]
                  simpa [flat, DeedV.cells, RowV.deed, createS] using HO3.out
                · first
                    | exact HBB.out.trans ((((Chg.refl (fun k => u6.ownBlock = some k) wr).drew.alloc _).next (Chg.of_grown HG3.out) (fun z _ h => h.symm)).below hsb (fun k hk => own_ge HOI.out hk))
                    | exact HBB.out.trans ((((Chg.refl (fun k => u6.ownBlock = some k) wr).alloc _).next (Chg.of_grown HG3.out) (fun z _ h => h.symm)).below hsb (fun k hk => own_ge HOI.out hk))
                · rcases Nat.lt_or_ge j q with h | h
                  · exact HA.out j y h hy
                  · obtain rfl : j = q := by omega
                    obtain rfl : y = r := Option.some.inj (hy.symm.trans HX.out)
                    exact ⟨hkey, hlo⟩
                · rcases Nat.lt_or_ge j q with h | h
                  · exact HD.out i j a b hij h ha hb
                  · obtain rfl : j = q := by omega
                    obtain rfl : b = r := Option.some.inj (hb.symm.trans HX.out)
                    exact HQ.out i a hij ha
    · have hke : k = len := by omega
      subst hke
      obtain ⟨A', c', rfl⟩ := own_form HO.out
      go_wp2
      go_ret2
      have ht : rows.take k = rows := List.take_of_length_le (by rw [← HN.out]; exact Nat.le_refl _)
      have HO2 := HO.out
      rw [ht] at HO2
      exact .inr ⟨A', c', n.toNat, rfl, HO2, HB.out, by omega, by omega, by omega, by omega, HG.out n.toNat (by omega) HA.out HD.out⟩

end Go.Proofs.YtffgkocokkhahaaGreatDoor

/- A valid value that is brought (as Back, without a law's walk) into the database and out again is the same. No condition but that it is valid. -/
namespace Go.Proofs.YtffgkocokkhahaaGreatDoor
open Go.RowKit

theorem zeros_b {f : Nat} {s : ByteArray} (h : zeros f s = true) : bitsV f = 0 ∧ s.toList = [] := by
  unfold zeros at h
  simp only [Bool.and_eq_true, beq_iff_eq, List.isEmpty_iff] at h
  exact h
theorem nil_toList : (⟨#[]⟩ : ByteArray).toList = [] := by decide +kernel
theorem bitsV_0 : bitsV 0 = 0 := by decide +kernel

theorem ba_eta (s : ByteArray) : (⟨s.data.toList.toArray⟩ : ByteArray) = s := by simp

/-- In and out again: the same. -/
theorem back_same {k : ByteArray} {n u : Int} {f : Nat} {s : ByteArray} {x : SV} {g : Nat} (hv : validB (Kd.of k.toList) n u f s = true) (hsv : SVof (Kd.of k.toList) n u f s x) (hg : FOut x g) :
    sameB x.nm x.oN x.oU g x.oS k n u f s = true := by
  have hko : Kd.of k.toList ≠ .other := fun h => by rw [h] at hv; exact absurd hv (by simp [validB])
  have hl := Kd.of_lit _ rfl hko
  generalize hK : Kd.of k.toList = K at hv hsv hl hko
  clear hK
  unfold sameB
  rw [hl]
  unfold SVof at hsv
  split at hsv
  · rename_i hc
    obtain ⟨y, rfl, hn, _⟩ := hsv
    obtain ⟨rfl, hnb⟩ := hc
    unfold FOut at hg
    rw [if_pos (by exact hn)] at hg
    rw [numB_nan] at hnb
    rw [bitsV_nan hg.1, bitsV_nan (f := f) (by simpa using hnb)]
    simp only [validB, Bool.and_eq_true, beq_iff_eq, List.isEmpty_iff] at hv
    obtain ⟨⟨⟨h1, h2⟩, h3⟩, _⟩ := hv
    subst h1 h2
    rw [h3]
    simp only [SV.nm, SV.oN, SV.oU, SV.oS]
    decide +kernel
  · rename_i hc
    subst hsv
    unfold FOut at hg
    cases K with
    | other => exact absurd rfl hko
    | null =>
      rw [if_neg (by simp [toSV, SV.isN32])] at hg
      simp only [validB, Bool.and_eq_true, beq_iff_eq] at hv
      obtain ⟨⟨rfl, rfl⟩, h3⟩ := hv
      obtain ⟨e1, e2⟩ := zeros_b h3
      rw [hg, e1, e2]
      simp only [toSV, SV.nm, SV.oN, SV.oU, SV.oF, SV.oS]
      decide +kernel
    | bool =>
      rw [if_neg (by simp [toSV, SV.isN32])] at hg
      simp only [validB, Bool.and_eq_true, Bool.or_eq_true, beq_iff_eq] at hv
      obtain ⟨⟨rfl, h3⟩, h4⟩ := hv
      obtain ⟨e1, e2⟩ := zeros_b h3
      rw [hg, e1, e2]
      simp only [toSV, SV.nm, SV.oN, SV.oU, SV.oF, SV.oS]
      rcases h4 with rfl | rfl <;> decide +kernel
    | int q =>
      rw [if_neg (by simp [toSV, SV.isN32])] at hg
      cases q <;>
      · simp only [validB, Bool.and_eq_true, beq_iff_eq] at hv
        obtain ⟨e1, e2⟩ := zeros_b (by first | exact hv.1.2 | exact hv.2)
        rw [hg, e1, e2]
        have h1 := (by first | exact hv.1.1 | exact hv.1)
        subst h1
        simp only [toSV, SV.nm, SV.oN, SV.oU, SV.oF, SV.oS, IntKind.signed, if_true, if_false, Bool.false_eq_true, bitsV_0, nil_toList]
        simp [Kd.lit]
        try decide +kernel
    | f32 =>
      have hnb : numB f = true := by
        cases h : numB f with
        | true => rfl
        | false => exact absurd ⟨rfl, h⟩ hc
      have hnn : (Ieee.double.read f).isNaN = false := by rw [numB_nan] at hnb; simpa using hnb
      rw [if_neg (by simp only [toSV, SV.isN32]; rw [down_num hnn]; simp)] at hg
      simp only [validB, single64, hnb, Bool.and_eq_true, beq_iff_eq, List.isEmpty_iff, Bool.not_true, Bool.false_or] at hv
      obtain ⟨⟨⟨rfl, rfl⟩, h3⟩, h4, _⟩ := hv
      rw [hg, h3]
      simp only [toSV, SV.nm, SV.oN, SV.oU, SV.oF, SV.oS, nil_toList]
      rw [h4]
      simp [Kd.lit]
      try decide +kernel
    | f64 =>
      rw [if_neg (by simp [toSV, SV.isN32])] at hg
      simp only [validB, Bool.and_eq_true, beq_iff_eq, List.isEmpty_iff] at hv
      obtain ⟨⟨rfl, rfl⟩, h3⟩ := hv
      rw [hg, h3]
      simp only [toSV, SV.nm, SV.oN, SV.oU, SV.oF, SV.oS, nil_toList]
      simp [Kd.lit]
      try decide +kernel
    | str =>
      rw [if_neg (by simp [toSV, SV.isN32])] at hg
      simp only [validB, Bool.and_eq_true, beq_iff_eq] at hv
      obtain ⟨⟨⟨rfl, rfl⟩, h3⟩, _⟩ := hv
      rw [hg, h3]
      simp only [toSV, SV.nm, SV.oN, SV.oU, SV.oF, SV.oS, bitsV_0]
      simp [Kd.lit]
      try decide +kernel
    | blob =>
      rw [if_neg (by simp [toSV, SV.isN32])] at hg
      simp only [validB, Bool.and_eq_true, beq_iff_eq] at hv
      obtain ⟨⟨⟨rfl, rfl⟩, h3⟩, _⟩ := hv
      rw [hg, h3]
      simp only [toSV, SV.nm, SV.oN, SV.oU, SV.oF, SV.oS, bitsV_0, ba_eta]
      simp [Kd.lit]
      try decide +kernel
    | iInt =>
      rw [if_neg (by simp [toSV, SV.isN32])] at hg
      simp only [validB, Bool.and_eq_true, beq_iff_eq] at hv
      obtain ⟨⟨rfl, h3⟩, _⟩ := hv
      obtain ⟨e1, e2⟩ := zeros_b h3
      rw [hg, e1, e2]
      simp only [toSV, SV.nm, SV.oN, SV.oU, SV.oF, SV.oS, bitsV_0, nil_toList]
      simp [Kd.lit]
      try decide +kernel
    | iRune =>
      rw [if_neg (by simp [toSV, SV.isN32])] at hg
      simp only [validB, Bool.and_eq_true, beq_iff_eq] at hv
      obtain ⟨⟨rfl, h3⟩, _⟩ := hv
      obtain ⟨e1, e2⟩ := zeros_b h3
      rw [hg, e1, e2]
      simp only [toSV, SV.nm, SV.oN, SV.oU, SV.oF, SV.oS, bitsV_0, nil_toList]
      simp [Kd.lit]
      try decide +kernel
    | iUint =>
      rw [if_neg (by simp [toSV, SV.isN32])] at hg
      simp only [validB, Bool.and_eq_true, beq_iff_eq] at hv
      obtain ⟨rfl, h3⟩ := hv
      obtain ⟨e1, e2⟩ := zeros_b h3
      rw [hg, e1, e2]
      simp only [toSV, SV.nm, SV.oN, SV.oU, SV.oF, SV.oS, bitsV_0, nil_toList]
      simp [Kd.lit]
      try decide +kernel
    | iFloat =>
      rw [if_neg (by simp [toSV, SV.isN32])] at hg
      simp only [validB, Bool.and_eq_true, beq_iff_eq, List.isEmpty_iff] at hv
      obtain ⟨⟨rfl, rfl⟩, h3⟩ := hv
      rw [hg, h3]
      simp only [toSV, SV.nm, SV.oN, SV.oU, SV.oF, SV.oS, nil_toList]
      simp [Kd.lit]
      try decide +kernel

end Go.Proofs.YtffgkocokkhahaaGreatDoor

/- Rows that came out of an index are the same as those that were put in. -/
namespace Go.Proofs.YtffgkocokkhahaaGreatDoor
open Go.RowKit

def SameL (l m : List VV) : Prop := l.length = m.length ∧ ∀ (i : Nat) (x y : VV), l[i]? = some x → m[i]? = some y → sameB x.k x.n x.u x.f x.s y.k y.n y.u y.f y.s = true
def SameR (a b : RowV) : Prop := a.h = b.h ∧ SameL a.us b.us
def SameRs (l m : List RowV) : Prop := l.length = m.length ∧ ∀ (i : Nat) (a b : RowV), l[i]? = some a → m[i]? = some b → SameR a b

theorem out_same {x u : VV} (hc : x.conc = true) (h : OutOf x u) : sameB u.k u.n u.u u.f u.s x.k x.n x.u x.f x.s = true := by
  obtain ⟨y, hy, _, hf, h1, h2, h3, h4⟩ := h
  rw [h1, h2, h3, h4]
  exact back_same (conc_valid hc) hy hf

theorem rowOk_same {B : Nat} {w : World} {r b : RowV} (h : RowOk B w b.key.xe r) (hc : ConcL b.us) : SameR r b :=
  ⟨h.h, h.len, fun i x y hx hy => out_same (hc i y hy).1 (h.outs i y x hy hx)⟩

theorem ans_same {B : Nat} {w : World} {ks : List Key} {R : Value} {rs : List RowV} (h : AnsRows B w ks R rs) {ws : List RowV} (hw : ws.map RowV.key = ks) (hc : ∀ r ∈ ws, ConcL r.us) : SameRs rs ws := by
  refine ⟨by rw [h.len, ← hw]; simp, fun i a b ha hb => ?_⟩
  have hk : ks[i]? = some b.key := by rw [← hw, List.getElem?_map, hb]; rfl
  exact rowOk_same (h.rows i b.key a hk ha) (hc b (List.mem_of_getElem? hb))

end Go.Proofs.YtffgkocokkhahaaGreatDoor

/- laws.sameRow and laws.sameIndex, of what is the same; laws.back. -/
namespace Go.Proofs.YtffgkocokkhahaaGreatDoor
open Go.RowKit

set_option maxRecDepth 100000 in
set_option maxHeartbeats 1600000 in
theorem sameRow_true (l m : List VV) (A B : Option Addr) (c d : Nat) (w : World) (hA : LAt w A l) (hB : LAt w B m) (hs : SameL l m) (hlm : l.length ≤ 2147483647) :
    Calls Tryz.prog 22 #[.slice A l.length c, .slice B m.length d] w fun e w' => e = .returned (.bool true) ∧ Below w.heap.size w w' := by
  obtain ⟨len, hlen⟩ : ∃ len, len = l.length := ⟨_, rfl⟩
  have hlen2 : m.length = len := by rw [hlen]; exact hs.1.symm
  have HL := Lib.hid hA
  have HM := Lib.hid hB
  have HN := Lib.hid hlen
  have HN2 := Lib.hid hlen2
  have HS := Lib.hid hs.2
  rw [hlen2]
  rw [← hlen] at hlm ⊢
  clear hA hB hlen hlen2 hs
  go_enter Tryz.func22, Tryz.ntmps22
  go_wp2
  go_loopw [13] (fun i wr => ∃ k : Nat, k ≤ len ∧ i = .int .i64 k ∧ Below w.heap.size w wr) (fun i _ => len - (intOf i).toNat)
  case atStart => exact ⟨0, by omega, rfl, Below.refl _ _⟩
  case round =>
    obtain ⟨k, hk, rfl, hb⟩ := hrel
    have HB := Lib.hid hb
    by_cases hlt : k < len
    · obtain ⟨x, hx⟩ : ∃ x, l[k]? = some x := ⟨_, List.getElem?_eq_getElem (by rw [← HN.out]; exact hlt)⟩
      obtain ⟨y, hy⟩ : ∃ y, m[k]? = some y := ⟨_, List.getElem?_eq_getElem (by rw [HN2.out]; exact hlt)⟩
      obtain ⟨ad, rfl, hbl, h0, h1, h2, h3, h4⟩ := (HL.out.below hb) k x hx
      obtain ⟨bd, rfl, hbm, g0, g1, g2, g3, g4⟩ := (HM.out.below hb) k y hy
      have HC : Hid (∀ w', Calls Tryz.prog 32 #[.agg #[.string x.k, .int .i64 x.n, .int .u64 x.u, .float .f64 x.f, .string x.s], .agg #[.string y.k, .int .i64 y.n, .int .u64 y.u, .float .f64 y.f, .string y.s]] w' fun e w'' => e = .returned (.bool true) ∧ Below w'.heap.size w' w'') :=
        Lib.hid (fun w' => by have := same_any x.k x.n x.u x.f x.s y.k y.n y.u y.f y.s w'; rw [HS.out k x y hx hy] at this; exact this)
      have p0 : ∀ q : BW wr, q.w.cell? (ad.add (k * 5)) = some (.string x.k) := fun q => (q.h.cell hbl).trans h0
      have p1 : ∀ q : BW wr, q.w.cell? ⟨(ad.add (k * 5)).block, (ad.add (k * 5)).off + 1, none⟩ = some (.int .i64 x.n) := fun q => (q.h.cell (by exact hbl)).trans h1
      have p2 : ∀ q : BW wr, q.w.cell? ⟨(ad.add (k * 5)).block, (ad.add (k * 5)).off + 2, none⟩ = some (.int .u64 x.u) := fun q => (q.h.cell (by exact hbl)).trans h2
      have p3 : ∀ q : BW wr, q.w.cell? ⟨(ad.add (k * 5)).block, (ad.add (k * 5)).off + 3, none⟩ = some (.float .f64 x.f) := fun q => (q.h.cell (by exact hbl)).trans h3
      have p4 : ∀ q : BW wr, q.w.cell? ⟨(ad.add (k * 5)).block, (ad.add (k * 5)).off + 4, none⟩ = some (.string x.s) := fun q => (q.h.cell (by exact hbl)).trans h4
      have q0 : ∀ q : BW wr, q.w.cell? (bd.add (k * 5)) = some (.string y.k) := fun q => (q.h.cell hbm).trans g0
      have q1 : ∀ q : BW wr, q.w.cell? ⟨(bd.add (k * 5)).block, (bd.add (k * 5)).off + 1, none⟩ = some (.int .i64 y.n) := fun q => (q.h.cell (by exact hbm)).trans g1
      have q2 : ∀ q : BW wr, q.w.cell? ⟨(bd.add (k * 5)).block, (bd.add (k * 5)).off + 2, none⟩ = some (.int .u64 y.u) := fun q => (q.h.cell (by exact hbm)).trans g2
      have q3 : ∀ q : BW wr, q.w.cell? ⟨(bd.add (k * 5)).block, (bd.add (k * 5)).off + 3, none⟩ = some (.float .f64 y.f) := fun q => (q.h.cell (by exact hbm)).trans g3
      have q4 : ∀ q : BW wr, q.w.cell? ⟨(bd.add (k * 5)).block, (bd.add (k * 5)).off + 4, none⟩ = some (.string y.s) := fun q => (q.h.cell (by exact hbm)).trans g4
      clear hx hy hb h0 h1 h2 h3 h4 g0 g1 g2 g3 g4
      go_wp2
      refine wp_region_bw (by kernel_rfl) (by kernel_rfl) ?_
      repeat (go_big_quiet_step ((go_at_call 32; exact bw_of (HC.out _))))
      refine wpQuiet_nil ?_
      intro _ hw'
      obtain ⟨pq, hw''⟩ := hw'
      subst hw''
      go_wp2
      exact ⟨⟨k + 1, by omega, by push_cast; rfl, up_below' HB.out pq.h⟩, by simp [intOf]; omega⟩
    · have hke : k = len := by omega
      subst hke
      go_wp2
      go_ret
      exact ⟨rfl, hb⟩

set_option maxRecDepth 100000 in
set_option maxHeartbeats 1600000 in
theorem sameIndex_true (l m : List RowV) (A B : Option Addr) (c d : Nat) (w : World) (hA : RowsAt w A l) (hB : RowsAt w B m) (hs : SameRs l m) (hlm : l.length ≤ 2147483647) (hlv : ∀ r ∈ l, r.us.length ≤ 2147483647) :
    Calls Tryz.prog 15 #[.slice A l.length c, .slice B m.length d] w fun e w' => e = .returned (.bool true) ∧ Below w.heap.size w w' := by
  obtain ⟨len, hlen⟩ : ∃ len, len = l.length := ⟨_, rfl⟩
  have hlen2 : m.length = len := by rw [hlen]; exact hs.1.symm
  have HL := Lib.hid hA
  have HM := Lib.hid hB
  have HN := Lib.hid hlen
  have HN2 := Lib.hid hlen2
  have HS := Lib.hid hs.2
  have HV := Lib.hid hlv
  rw [hlen2]
  rw [← hlen] at hlm ⊢
  clear hA hB hlen hlen2 hs hlv
  go_enter Tryz.func15, Tryz.ntmps15
  go_wp2
  go_loopw [13] (fun i wr => ∃ k : Nat, k ≤ len ∧ i = .int .i64 k ∧ Below w.heap.size w wr) (fun i _ => len - (intOf i).toNat)
  case atStart => exact ⟨0, by omega, rfl, Below.refl _ _⟩
  case round =>
    obtain ⟨k, hk, rfl, hb⟩ := hrel
    have HB := Lib.hid hb
    by_cases hlt : k < len
    · obtain ⟨x, hx⟩ : ∃ x, l[k]? = some x := ⟨_, List.getElem?_eq_getElem (by rw [← HN.out]; exact hlt)⟩
      obtain ⟨y, hy⟩ : ∃ y, m[k]? = some y := ⟨_, List.getElem?_eq_getElem (by rw [HN2.out]; exact hlt)⟩
      obtain ⟨⟨ad, rfl, hbl, h0, h1⟩, hlx⟩ := (HL.out.below hb) k x hx
      obtain ⟨⟨bd, rfl, hbm, g0, g1⟩, hly⟩ := (HM.out.below hb) k y hy
      have hxy := HS.out k x y hx hy
      rw [← hxy.1] at g1
      have HC : Hid (∀ z : BW wr, Calls Tryz.prog 22 #[.slice x.A x.us.length x.c, .slice y.A y.us.length y.c] z.w fun e w'' => e = .returned (.bool true) ∧ Below z.w.heap.size z.w w'') :=
        Lib.hid (fun z => sameRow_true x.us y.us x.A y.A x.c y.c z.w (hlx.below z.h) (hly.below z.h) hxy.2 (HV.out x (List.mem_of_getElem? hx)))
      have p0 : ∀ q : BW wr, q.w.cell? (ad.add (k * 2)) = some (.slice x.A x.us.length x.c) := fun q => (q.h.cell hbl).trans h0
      have p1 : ∀ q : BW wr, q.w.cell? ⟨(ad.add (k * 2)).block, (ad.add (k * 2)).off + 1, none⟩ = some (.int .i64 x.h) := fun q => (q.h.cell (by exact hbl)).trans h1
      have q0 : ∀ q : BW wr, q.w.cell? (bd.add (k * 2)) = some (.slice y.A y.us.length y.c) := fun q => (q.h.cell hbm).trans g0
      have q1 : ∀ q : BW wr, q.w.cell? ⟨(bd.add (k * 2)).block, (bd.add (k * 2)).off + 1, none⟩ = some (.int .i64 x.h) := fun q => (q.h.cell (by exact hbm)).trans g1
      have hne : (x.h != x.h) = false := by simp
      clear hx hy hb h0 h1 g0 g1 hlx hly hxy
      go_wp2
      refine wp_region_bw (by kernel_rfl) (by kernel_rfl) ?_
      repeat (go_big_quiet_step ((go_at_call 22; exact bw_of (HC.out _))))
      refine wpQuiet_nil ?_
      intro _ hw'
      obtain ⟨pq, hw''⟩ := hw'
      subst hw''
      go_wp2
      exact ⟨⟨k + 1, by omega, by push_cast; rfl, up_below' HB.out pq.h⟩, by simp [intOf]; omega⟩
    · have hke : k = len := by omega
      subst hke
      go_wp2
      go_ret
      exact ⟨rfl, hb⟩

end Go.Proofs.YtffgkocokkhahaaGreatDoor

/- What the walk of laws.FnIndexOrder asks of its callees. -/
namespace Go.Proofs.YtffgkocokkhahaaGreatDoor
open Go.RowKit

/-- What impl.Index has answered to rows that are created, and to both ends. -/
structure IdxRead (ks : List Key) (len q g : Nat) (A1 A2 : Option Addr) (c1 c2 : Nat) (rs1 rs2 : List RowV) (w w' : World) : Prop where
  zero : ∀ j, j < len → w'.cell? ⟨g, j * 3, none⟩ = some (.int .i64 0)
  a0 : w'.cell? ⟨g, len * 3, none⟩ = some (.int .i64 0)
  a1 : w'.cell? ⟨g, len * 3 + 1, none⟩ = some (.bool false)
  a2 : w'.cell? ⟨g, len * 3 + 2, none⟩ = some (.slice A1 len c1)
  b0 : w'.cell? ⟨g, q * 3, none⟩ = some (.int .i64 0)
  b1 : w'.cell? ⟨g, q * 3 + 1, none⟩ = some (.bool false)
  b2 : w'.cell? ⟨g, q * 3 + 2, none⟩ = some (.slice A2 len c2)
  lt : g < w'.heap.size
  first : AnsRows w.heap.size w' (sortK ks) (.slice A1 len c1) rs1
  last : AnsRows w.heap.size w' (sortK ks).reverse (.slice A2 len c2) rs2

theorem index_read {ks : List Key} {len q : Nat} (hlen : len = ks.length) (hq : q = len + 1) {w : World} {y : Ending} {w' : World} (h : IndexP ks [true, false] w y w') :
    ∃ g cap A1 A2 c1 c2 rs1 rs2, y = .returned (.slice (some ⟨g, 0, none⟩) (len + 2) cap) ∧ IdxRead ks len q g A1 A2 c1 c2 rs1 rs2 w w' ∧ Below w.heap.size w w' := by
  subst hlen hq
  obtain ⟨A, c, av, rfl, hown, hlen, hans, hb⟩ := h
  obtain ⟨g, cap, cur, e1, _, hh, _, _, _, ht⟩ := own_some hown (by simp)
  have hA' : A = some ⟨g, 0, none⟩ := by injection e1
  subst hA'
  have hlen' : av.length = ks.length + 2 := hlen
  have hat : ∀ j, j < ks.length + 2 → ∃ a, av[j]? = some a := fun j hj => ⟨_, List.getElem?_eq_getElem (by omega)⟩
  obtain ⟨a1, ha1⟩ := hat ks.length (by omega)
  obtain ⟨a2, ha2⟩ := hat (ks.length + 1) (by omega)
  have c1 := ans_cell hh ht ha1
  have c2 := ans_cell hh ht ha2
  have r1 := hans.rows 0 true a1 rfl ha1
  have r2 := hans.rows 1 false a2 rfl ha2
  obtain ⟨A1, k1, e1⟩ := own_form r1.own
  obtain ⟨A2, k2, e2⟩ := own_form r2.own
  have w1 : (want ks true).length = ks.length := want_length ks true
  have w2 : (want ks false).length = ks.length := want_length ks false
  rw [w1] at e1
  rw [w2] at e2
  rw [e1] at c1 r1
  rw [e2] at c2 r2
  exact ⟨g, c, A1, A2, k1, k2, a1.rs, a2.rs, rfl, ⟨fun j hj => by obtain ⟨a, ha⟩ := hat j (by omega); exact (ans_cell hh ht ha).1, c1.1, c1.2.1, c1.2.2, c2.1, c2.2.1, c2.2.2, lt_of_heap hh, r1, r2⟩, hb⟩

theorem ans_short {B m : Nat} {w : World} {ks : List Key} {R : Value} {rs : List RowV} (h : AnsRows B w ks R rs) (hk : ∀ k ∈ ks, k.l.length ≤ m) : ∀ r ∈ rs, r.us.length ≤ m := by
  intro r hr
  obtain ⟨i, hi, rfl⟩ := List.getElem_of_mem hr
  have hi2 : i < ks.length := by rw [← h.len]; exact hi
  have := (h.rows i ks[i] _ (List.getElem?_eq_getElem hi2) (List.getElem?_eq_getElem hi)).len
  rw [this]
  exact hk _ (List.getElem_mem hi2)

/-- What an end has told is the same as what was put in order by hand. -/
theorem same_call {rows ws rs : List RowV} {nn len B : Nat} {ks : List Key} {w0 : World} {A1 A5 : Option Addr} {c1 c5 : Nat} (hg : RowsGood rows nn) (hnn : nn ≤ 3) (h600 : len ≤ 600) (ha : AnsRows B w0 ks (.slice A1 len c1) rs) (hw : ws.map RowV.key = ks) (hm : ∀ r ∈ ws, r ∈ rows) (w : World) (h1 : RowsAt w A1 rs) (h5 : RowsAt w A5 ws) :
    Calls Tryz.prog 15 #[.slice A1 len c1, .slice A5 len c5] w fun e w' => e = .returned (.bool true) ∧ Below w.heap.size w w' := by
  have hl := ha.at_.2
  have hs := ans_same ha hw (fun r hr => hg.conc r (hm r hr))
  have hlw : ws.length = len := by rw [← hs.1, ← hl]
  have hk : ∀ k ∈ ks, k.l.length ≤ 3 := fun k hk => by
    rw [← hw] at hk
    obtain ⟨r, hr, rfl⟩ := List.mem_map.1 hk
    have := hg.len (hm r hr)
    show r.us.length ≤ 3
    omega
  have h := sameIndex_true rs ws A1 A5 c1 c5 w h1 h5 hs (by omega) (fun r hr => by have := ans_short ha hk r hr; omega)
  rw [← hl, hlw] at h
  exact h

theorem reads_two (w : World) (N : Int) (t : TypeId) : Reads (w.alloc (.cells #[.string ⟨#[102, 105, 114, 115, 116]⟩, .slice none 0 0, .int .i64 0, .int .i64 N, .string ⟨#[108, 97, 115, 116]⟩, .slice none 0 0, .int .i64 0, .int .i64 N] t)) (w.heap.size + 1) 4 (some ⟨w.heap.size, 0, none⟩) 2
    [.string ⟨#[102, 105, 114, 115, 116]⟩, .slice none 0 0, .int .i64 0, .int .i64 N, .string ⟨#[108, 97, 115, 116]⟩, .slice none 0 0, .int .i64 0, .int .i64 N] :=
  ⟨rfl, fun _ => ⟨_, rfl, Nat.lt_succ_self _, fun j u hu => World.news_of_block (heap_new w _) j u hu⟩⟩

/-- The deeds of the law are done. -/
theorem law_call {rows : List RowV} {nn len q c3 : Nat} {A3 : Option Addr} {w3 : World} {B : Nat} {E : Value} (hlen : len = rows.length) (hq : q = len + 1) (hg : RowsGood rows nn) (hn1 : 1 ≤ nn) (hn3 : nn ≤ 3) (h600 : len ≤ 600) (hE : HasEof w3 E) (hL : ∀ r ∈ rows, LAt w3 r.A r.us)
    (hown : w3.ownsRow B 43 4 (.slice A3 (len + 2) c3) (len + 2) (flat DeedV.cells (rows.map RowV.deed) ++ [.string ⟨#[102, 105, 114, 115, 116]⟩, .slice none 0 0, .int .i64 0, .int .i64 q, .string ⟨#[108, 97, 115, 116]⟩, .slice none 0 0, .int .i64 0, .int .i64 q])) :
    Calls Tryz.prog 13 #[.bool false, .slice A3 (len + 2) c3] w3 (IndexP (rows.map RowV.key) [true, false] w3) := by
  have hd : DeedsAt w3 A3 (rows.map RowV.deed ++ [true, false].map (endDeed q)) := by
    refine deeds_reads (n := len + 2) ?_ (by simp [hlen]) (fun d hd => ?_)
    · rw [flat_append]
      exact Reads.of_own hown
    · rcases List.mem_append.1 hd with h | h
      · obtain ⟨r, hr, rfl⟩ := List.mem_map.1 h
        exact hL r hr
      · obtain ⟨b, _, rfl⟩ := List.mem_map.1 h
        exact fun i x hx => by simp [endDeed] at hx
  have h := index_any (ks := rows.map RowV.key) (tl := [true, false]) (c := c3) rfl hg hn1 (by omega) (by omega) (by simp) (N := q) (by omega) (by omega) hE hd
  have e : (rows.map RowV.key).length + [true, false].length = len + 2 := by simp [hlen]
  rw [e] at h
  exact h

end Go.Proofs.YtffgkocokkhahaaGreatDoor

/- The walk of laws.FnIndexOrder: it returns true. -/
namespace Go.Proofs.YtffgkocokkhahaaGreatDoor
open Go.RowKit

set_option maxRecDepth 100000 in
set_option maxHeartbeats 1600000 in
theorem lawIxo_long (rows : List RowV) (A : Option Addr) (c : Nat) (n : Int) (w : World) (HZ : Hid (Calls Tryz.prog 10 #[.slice A rows.length c] w fun e w' => e = .returned (.bool false) ∧ Below w.heap.size w w')) :
    Calls Tryz.prog 4 #[.slice A rows.length c, .int .i64 n] w fun e w' => e = .returned (.bool true) ∧ Below w.heap.size w w' := by
  go_enter Tryz.func4, Tryz.ntmps4
  go_wp2_with (go_at_call 10; refine HZ.out.mono ?_; rintro e w1 ⟨rfl, hb1⟩)
  go_ret
  exact ⟨rfl, hb1⟩

theorem back_call {ws : List RowV} {len c6 : Nat} {A6 : Option Addr} {w' : World} (hwl : ws.length = len) (h600 : len ≤ 600) (h6 : RowsAt w' A6 ws) :
    Calls Tryz.prog 16 #[.slice A6 len c6] w' fun y w'' => ∃ A8 c8, y = .returned (.slice A8 len c8) ∧ RowsAt w'' A8 ws.reverse ∧ Below w'.heap.size w' w'' := by
  subst hwl
  refine (back_any ws A6 c6 w' h6 (by omega)).mono ?_
  rintro y w'' ⟨A8, c8, rfl, hown, hb⟩
  refine ⟨A8, c8, rfl, rows_own hown (by simp) (fun i r hr => ?_), hb⟩
  obtain ⟨j, hj, rfl⟩ := List.getElem_of_mem (List.mem_reverse.1 (List.mem_of_getElem? hr))
  exact ((h6.below hb) j _ (List.getElem?_eq_getElem hj)).2

theorem two_low (w : World) (o p : Obj) : ((w.alloc o).alloc p).drew.heap[w.heap.size]? = some o := (heap_drew _ _).trans ((heap_alloc_ne _ _ _ (by simp)).trans (heap_new w o))
theorem two_high (w : World) (o p : Obj) : ((w.alloc o).alloc p).drew.heap[w.heap.size + 1]? = some p := by
  rw [heap_drew]
  have := heap_new (w.alloc o) p
  simpa using this

set_option maxRecDepth 100000 in
set_option maxHeartbeats 6400000 in
theorem lawIxo_fits (rows : List RowV) (A : Option Addr) (c : Nat) (n : Int) (w : World) (hl : RowsAt w A rows) (hr : ∀ r ∈ rows, RowRng r) {E : Value} (hE : HasEof w E) (HZ : Hid (Calls Tryz.prog 10 #[.slice A rows.length c] w fun e w' => e = .returned (.bool true) ∧ Below w.heap.size w w')) :
    Calls Tryz.prog 4 #[.slice A rows.length c, .int .i64 n] w fun e w' => e = .returned (.bool true) ∧ Below w.heap.size w w' := by
  obtain ⟨i0, hi, hz0, hz1, hz2⟩ := info_parts info_ideed
  have HF := Lib.hid (fun w' (hb : Below w.heap.size w w') => filled_any rows A c n w' (hl.below hb) hr)
  have HL := Lib.hid hl
  have HE := Lib.hid hE
  obtain ⟨len, hlen⟩ : ∃ len, len = rows.length := ⟨_, rfl⟩
  have HN := Lib.hid hlen
  unfold FilledP at HF
  rw [← hlen] at HZ HF ⊢
  clear hl hr hE hlen
  go_enter Tryz.func4, Tryz.ntmps4
  go_wp2_with (go_at_call 10; refine HZ.out.mono ?_; rintro e w1 ⟨rfl, hb1⟩)
  go_at_call 11
  refine (HF.out _ hb1).mono ?_
  rintro y w2 (⟨rfl, hb2⟩ | ⟨A2, c2, nn, rfl, hown2, hb2, h600, hn, hn1, hn3, hg⟩)
  · have HB2 := Lib.hid (up_below' hb1 hb2)
    go_wp2_with (go_at_call 12; refine (keeps_any _ (HE.out.below HB2.out)).mono ?_; rintro e w3 ⟨rfl, hb3⟩)
    go_ret
    exact ⟨rfl, up_below' HB2.out hb3⟩
  · have HB2 := Lib.hid (up_below' hb1 hb2)
    have HO2 := Lib.hid (own_mono hown2 hb1.size)
    have HG := Lib.hid hg
    have HNN := Lib.hid hn
    obtain ⟨q, hq⟩ : ∃ q : Nat, q = len + 1 := ⟨_, rfl⟩
    have hq1 : (len : Int) + 1 = (q : Int) := by omega
    have hq2 : IntKind.i64.wrap (q : Int) = (q : Int) := IntWalk.i64_in _ (by omega)
    have hs2 := HB2.out.size
    obtain ⟨m2, hm2⟩ : ∃ m2 : Nat, m2 = len + 2 := ⟨_, rfl⟩
    have hqb : q < m2 := by omega
    have hlb : len < m2 := by omega
    have HM2 := Lib.hid hm2
    have HQ := Lib.hid hq
    have HLI := Lib.hid (fun w' (hb : Below w.heap.size w w') (r : RowV) (hr : r ∈ rows) => show LAt w' r.A r.us by
      obtain ⟨i, hi, rfl⟩ := List.getElem_of_mem hr
      exact (hb |> HL.out.below) i _ (List.getElem?_eq_getElem hi) |>.2)
    clear hown2 hb2 hg hq hn hm2
    go_wp2_with (first
      | (at_builtin
         refine wpList_append_any _ rfl (.tmp 24) (.tmp 33) _ rfl w.heap.size 43 i0 _ 4 56 Tryz.underlying39 hi hz0 hz1 hz2 rfl (by omega) _ len (flat DeedV.cells (rows.map RowV.deed)) rfl
           (HO2.out.alloc _) (w2.heap.size + 1) (some ⟨w2.heap.size, 0, none⟩) 2 2 _ rfl (reads_two _ q _) (fun u hu => by simp only [List.mem_cons, List.not_mem_nil, or_false] at hu; rcases hu with rfl | rfl | rfl | rfl | rfl | rfl | rfl | rfl <;> rfl) (by simp only [maxLen]; omega) (by omega) (by simp; omega) ?_
         intro v3 w3 hown3 hg3 _
         have HB3 : Hid (Below w.heap.size w w3) := Lib.hid (HB2.out.trans ((((Chg.refl (fun z => Value.ownBlock _ = some z) w2).alloc _).next (Chg.of_grown hg3) (fun z _ h => h.symm)).below hs2 (fun z hz => own_ge HO2.out hz)))
         have hlc := fun A3 c3 (e : v3 = .slice A3 (len + 2) c3) => law_call (A3 := A3) (c3 := c3) HN.out HQ.out HG.out hn1 hn3 h600 (HE.out.below HB3.out) (HLI.out w3 HB3.out) (e ▸ hown3)
         rw [← HM2.out] at hown3 hlc
         obtain ⟨A3, c3, rfl⟩ := own_form hown3
         have HC3 := Lib.hid (hlc A3 c3 rfl)
         clear hown3 hg3)
      | (go_at_call 13
         refine HC3.out.mono ?_
         intro y w4 hP
         have hrdd := index_read (len := len) (by rw [List.length_map]; exact HN.out) HQ.out hP
         rw [← HM2.out] at hrdd
         obtain ⟨g, cap, A4, A5, c4, c5, rs1, rs2, rfl, hrd, hb4⟩ := hrdd
         have HRD := Lib.hid hrd
         have HB4 := Lib.hid (up_below' HB3.out hb4)
         clear hP hrd hb4))
    go_loopw [44] (fun i wr => ∃ k : Nat, k ≤ len ∧ i = .int .i64 k ∧ Below w4.heap.size w4 wr) (fun i _ => len - (intOf i).toNat)
    case atStart => exact ⟨0, by omega, rfl, Below.refl _ _⟩
    case round =>
      obtain ⟨k, hk, rfl, hb⟩ := hrel
      have hgl := HRD.out.lt
      by_cases hlt : k < len
      · have z0 : wr.cell? ⟨g, k * 3, none⟩ = some (.int .i64 0) := (hb.cell (p := ⟨g, k * 3, none⟩) hgl).trans (HRD.out.zero k hlt)
        have hk2 : k < m2 := by omega
        go_wp2
        exact ⟨⟨k + 1, by omega, by push_cast; rfl, hb⟩, by simp [intOf]; omega⟩
      · have HBW := Lib.hid (up_below' HB4.out hb)
        have HBI := Lib.hid hb
        have hso := sorted_any rows A c nn wr (HL.out.below HBW.out) HG.out (by omega) (by rw [← HN.out]; omega)
        unfold SortedP at hso
        rw [← HN.out] at hso
        have HSO := Lib.hid hso
        have hs := hb.size
        clear hso hb
        go_wp2_with (go_at_call 14
                     refine HSO.out.mono ?_
                     rintro y w5 ⟨A6, c6, ws, rfl, hown5, hwl, hwk, hwm, hb5⟩
                     have HO5 := Lib.hid hown5
                     have HWL := Lib.hid hwl
                     have HWK := Lib.hid hwk
                     have HWM := Lib.hid hwm
                     have HB5 := Lib.hid (up_below' HBW.out hb5)
                     have HB45 := Lib.hid (up_below' HBI.out hb5)
                     have a0 : w5.cell? ⟨g, len * 3, none⟩ = some (.int .i64 0) := (HB45.out.cell (p := ⟨g, _, none⟩) hgl).trans HRD.out.a0
                     have a1 : w5.cell? ⟨g, len * 3 + 1, none⟩ = some (.bool false) := (HB45.out.cell (p := ⟨g, _, none⟩) hgl).trans HRD.out.a1
                     have a2 : w5.cell? ⟨g, len * 3 + 2, none⟩ = some (.slice A4 len c4) := (HB45.out.cell (p := ⟨g, _, none⟩) hgl).trans HRD.out.a2
                     have b0 : w5.cell? ⟨g, q * 3, none⟩ = some (.int .i64 0) := (HB45.out.cell (p := ⟨g, _, none⟩) hgl).trans HRD.out.b0
                     have b1 : w5.cell? ⟨g, q * 3 + 1, none⟩ = some (.bool false) := (HB45.out.cell (p := ⟨g, _, none⟩) hgl).trans HRD.out.b1
                     have b2 : w5.cell? ⟨g, q * 3 + 2, none⟩ = some (.slice A5 len c5) := (HB45.out.cell (p := ⟨g, _, none⟩) hgl).trans HRD.out.b2
                     have hg5 : g < w5.heap.size := Nat.lt_of_lt_of_le hgl HB45.out.size
                     clear hown5 hwl hwk hwm hb5)
        go_cut [10, 11] from 56 to 66 (fun s10 s11 wx => ∃ bx by' : Nat, s10 = .pointer (some ⟨bx, 0, none⟩) ∧ s11 = .pointer (some ⟨by', 0, none⟩) ∧ wx.heap[bx]? = some (.cells #[.int .i64 0, .bool false, .slice A4 len c4] 47 (0, 0)) ∧ wx.heap[by']? = some (.cells #[.int .i64 0, .bool false, .slice A5 len c5] 47 (0, 0)) ∧ Below w5.heap.size w5 wx)
        case first =>
          go_region
          all_goals
            go_wp2
            go_meet
          · exact ⟨w5.heap.size, w5.heap.size + 1, rfl, rfl, two_low _ _ _, two_high _ _ _, (below_al2 w5 _ _).drew⟩
          · exact ⟨w5.heap.size + 1, w5.heap.size, rfl, rfl, two_high _ _ _, two_low _ _ _, (below_al2 w5 _ _).drew⟩
        case rest =>
          obtain ⟨bx, by', rfl, rfl, hx, hy, hb6⟩ := hcut
          have HX := Lib.hid hx
          have HY := Lib.hid hy
          have HB6 := Lib.hid hb6
          have hrows5 : RowsAt w5 A6 ws := rows_own HO5.out HWL.out (fun i r hr => HLI.out w5 HB5.out r (HWM.out r (List.mem_of_getElem? hr)))
          have HS1 := Lib.hid (fun w' (hb : Below wc.heap.size wc w') => same_call (c5 := c6) HG.out hn3 h600 HRD.out.first HWK.out HWM.out w' (HRD.out.first.at_.1.below (up_below' (up_below' HB45.out HB6.out) hb)) (hrows5.below (up_below' HB6.out hb)))
          have HS2 := Lib.hid (fun w' (hb : Below wc.heap.size wc w') A8 c8 (h8 : RowsAt w' A8 ws.reverse) => same_call (c5 := c8) HG.out hn3 h600 HRD.out.last (by rw [List.map_reverse, HWK.out]) (fun r hr => HWM.out r (by simpa using hr)) w' (HRD.out.last.at_.1.below (up_below' (up_below' HB45.out HB6.out) hb)) h8)
          have HBK := Lib.hid (fun w' (hb : Below wc.heap.size wc w') => back_call (c6 := c6) HWL.out h600 (hrows5.below (up_below' HB6.out hb)))
          have HKP := Lib.hid (fun w' (hb : Below wc.heap.size wc w') => keeps_any w' ((HE.out.below HB5.out).below (up_below' HB6.out hb)))
          have x0 := cell_of_heap hx 0
          have x2 := cell_of_heap hx 2
          have y0 := cell_of_heap hy 0
          have y2 := cell_of_heap hy 2
          clear hx hy hb6 hrows5
          go_wp2
          go_region_law
            (first
              | (go_simp; go_at_call_of 15 (Value.slice A4 len c4)
                 refine (HS1.out _ (by first | exact Below.refl _ _ | exact (Below.refl _ _).drew)).mono ?_
                 rintro e w7 ⟨rfl, hb7⟩
                 have HB7 : Hid (Below wc.heap.size wc w7) := Lib.hid (by first | exact up_below' (Below.refl _ _) hb7 | exact up_below' (Below.refl _ _).drew hb7)
                 have y7 := cell_of_heap (heap_below HY.out HB7.out) 2
                 clear hb7)
              | (go_simp; go_at_call 16
                 refine (HBK.out _ HB7.out).mono ?_
                 rintro e w8 ⟨A8, c8, rfl, h8, hb8⟩
                 have HR8 := Lib.hid h8
                 have HB8 := Lib.hid (up_below' HB7.out hb8)
                 have y8 := cell_of_heap (heap_below HY.out HB8.out) 2
                 clear h8 hb8)
              | (go_simp; go_at_call 15
                 refine (HS2.out _ HB8.out A8 c8 HR8.out).mono ?_
                 rintro e w9 ⟨rfl, hb9⟩
                 have HB9 := Lib.hid (up_below' HB8.out hb9)
                 clear hb9)
              | (go_simp; go_at_call 12
                 refine (HKP.out _ HB9.out).mono ?_
                 rintro e w10 ⟨rfl, hb10⟩
                 have HB10 := Lib.hid (up_below' HB9.out hb10)
                 clear hb10))
          all_goals
            go_wp2
            go_ret
            exact ⟨rfl, up_below' (up_below' HB5.out HB6.out) HB10.out⟩

theorem lawIxo_walk {w : World} (rows : List RowV) (A : Option Addr) (c : Nat) (hl : RowsAt w A rows) (hr : ∀ r ∈ rows, RowRng r) (n : Int) {E : Value} (hE : HasEof w E) :
    Calls Tryz.prog 4 #[.slice A rows.length c, .int .i64 n] w fun e w' => e = .returned (.bool true) ∧ Below w.heap.size w w' := by
  have hz := zzFits17_any rows A c w hl
  cases h : fits17B rows with
  | false =>
    rw [h] at hz
    exact lawIxo_long rows A c n w (Lib.hid hz)
  | true =>
    rw [h] at hz
    exact lawIxo_fits rows A c n w hl hr hE (Lib.hid hz)

end Go.Proofs.YtffgkocokkhahaaGreatDoor
