/-
  laws.treeDeed: sett. PRINTED BY wip/tpl/gen_yrd.py. || laws.treeDeed: setn. PRINTED BY wip/tpl/gen_yrd.py.
-/
import Derived.Test.YtffgkocokkhahaaDoorTp36
import Derived.Deep.CutRange
import Derived.Deep.RegionLaw
import Derived.BigQuiet
import Derived.StillTailTactics

/- laws.treeDeed: sett. PRINTED BY wip/tpl/gen_yrd.py. -/
namespace Go.Proofs.YtffgkocokkhahaaDoor
open Go.RowKit

set_option maxRecDepth 100000 in
set_option maxHeartbeats 3200000 in
theorem ld_sett {dsc : Bool} {n : Nat} {st : List PR} {ps : List PairV} {A : Option Addr} {c : Nat} {K V : List VV} {N : Int} {kA : Option Addr} {kc : Nat} {vA : Option Addr} {vc : Nat} {a : TAV} {w1 w : World} (h : DeedIn dsc n st ps A c ⟨.set, K, V, N⟩ kA kc vA vc a w1 w) (hth : thereP dsc K st = true) :
    Calls Tryd.prog 10 #[.bool dsc, .slice A ps.length c, .agg #[.string ⟨#[115, 101, 116]⟩, .slice kA K.length kc, .slice vA V.length vc, .int .i64 N], .agg #[.bool a.is, .int .i64 a.n, .slice a.R a.us.length a.c, .slice a.P a.rs.length a.pc]] w (LDeed dsc n st ⟨.set, K, V, N⟩ w1) := by
  unfold LDeed
  have hlen9 := h.len
  have hfN0 : -1000 ≤ N := h.fit.lo
  have hfN1 : N ≤ 1000 := h.fit.hi
  have hbs := h.below.size
  have HH := Lib.hid h
  obtain ⟨len, hlen⟩ : ∃ len, len = ps.length := ⟨_, rfl⟩
  obtain ⟨kl, hkl⟩ : ∃ kl, kl = K.length := ⟨_, rfl⟩
  obtain ⟨opv, hopv⟩ : ∃ opv : ByteArray, opv = ⟨#[115, 101, 116]⟩ := ⟨_, rfl⟩
  have HN := Lib.hid hlen
  have HKL := Lib.hid hkl
  have HOP := Lib.hid hopv
  rw [← hlen, ← hkl, ← hopv]
  rw [← hlen] at hlen9
  clear h hlen hkl hopv
  go_enter Tryd.func10, Tryd.ntmps10
  go_upto_if 15 with fail
  obtain ⟨W0, hW0⟩ : ∃ W0, W0 = (w.alloc (.cells #[.string opv, .slice kA kl kc, .slice vA V.length vc, .int .i64 N] 27)).alloc (.cells #[.bool a.is, .int .i64 a.n, .slice a.R a.us.length a.c, .slice a.P a.rs.length a.pc] 35) := ⟨_, rfl⟩
  rw [← hW0]
  have HB0 : Hid (Below w.heap.size w W0) := Lib.hid (by rw [hW0]; exact below_al2' w _ _)
  have HD0 : Hid (W0.heap[w.heap.size]? = some (.cells #[.string opv, .slice kA kl kc, .slice vA V.length vc, .int .i64 N] 27 (0, 0))) := Lib.hid (by rw [hW0]; exact (heap_alloc_ne _ _ _ (by simp)).trans (heap_new w _))
  have HA0 : Hid (W0.heap[w.heap.size + 1]? = some (.cells #[.bool a.is, .int .i64 a.n, .slice a.R a.us.length a.c, .slice a.P a.rs.length a.pc] 35 (0, 0))) := Lib.hid (by rw [hW0]; have := heap_new (w.alloc (.cells #[.string opv, .slice kA kl kc, .slice vA V.length vc, .int .i64 N] 27)) (.cells #[.bool a.is, .int .i64 a.n, .slice a.R a.us.length a.c, .slice a.P a.rs.length a.pc] 35); simpa using this)
  clear hW0
  go_cut [10, 11] from 12 to 49 (fun s10 s11 wx => ∃ (k : Nat) (b : Bool), s10 = .int .i64 (k : Int) ∧ s11 = .bool b ∧ Place dsc n st K k b ∧ Below W0.heap.size W0 wx)
  case first =>
    by_cases hK0 : 0 < kl
    · have hd0 : decide (0 < kl) = true := decide_eq_true hK0
      rw [hd0]
      go_wp2
      go_loopw [10] (fun i wr => ∃ k : Nat, k ≤ len ∧ i = .int .i64 (k : Int) ∧ Below W0.heap.size W0 wr ∧ ∀ (j : Nat) (r : PairV), j < k → ps[j]? = some r → ∃ c, Told dsc n K r c ∧ c < 0) (fun i _ => len - (intOf i).toNat)
      case atStart => exact ⟨0, by omega, rfl, Below.refl _ _, fun j r hj => by omega⟩
      case round =>
        obtain ⟨k, hk, rfl, hb, hall⟩ := hrel
        have HALL := Lib.hid hall
        have HB := Lib.hid hb
        have HBW := Lib.hid (up_below' HB0.out hb)
        have d1 := cell_of_heap (heap_below HD0.out hb) 1
        clear hall hb
        by_cases hlt : k < len
        · obtain ⟨r, hr⟩ : ∃ r, ps[k]? = some r := ⟨_, List.getElem?_eq_getElem (by rw [← HN.out]; exact hlt)⟩
          obtain ⟨⟨ad, rfl, hbl, h0, h1⟩, _⟩ := (HH.out.pairs HBW.out) k r hr
          have HR := Lib.hid hr
          have HC := Lib.hid (fun (w' : World) (hb : Below _ _ w') => by have := HH.out.cmp (by show 0 < K.length; rw [← HKL.out]; exact hK0) (List.mem_of_getElem? hr) (up_below' HBW.out hb); rw [← HKL.out] at this; exact this)
          have hd : decide ((k : Int) < (len : Int)) = true := decide_eq_true (by omega)
          clear hr h1
          go_wp2
          go_still_tail 13, (by kernel_rfl)
          change wpList _ _ _ _ _ (_ : World).drew
          go_wp2_with (go_at_call 16
                       refine (HC.out _ (Below.refl _ _).drew).mono ?_
                       rintro e w3 ⟨cc, rfl, ht, hb3⟩
                       have HT := Lib.hid ht
                       have HB3 : Hid (Below wr.heap.size wr w3) := Lib.hid (up_below' (Below.refl _ _).drew hb3)
                       have hbl3 : (ad.add (k * 2)).block < w3.heap.size := Nat.lt_of_lt_of_le hbl HB3.out.size
                       have g0 := (HB3.out.cell hbl).trans h0
                       have d3 := (HB3.out.cell (p := ⟨w.heap.size, 1, none⟩) (lt_of_heap (heap_below HD0.out HB.out))).trans d1
                       have HC3 := Lib.hid (fun (w' : World) (hb : Below w3.heap.size w3 w') => HC.out w' (up_below' HB3.out hb))
                       clear hb3 ht)
          · refine ⟨⟨k + 1, by omega, by push_cast; rfl, up_below' HB.out HB3.out, fun j z hj hz => ?_⟩, by simp [intOf]; omega⟩
            rcases Nat.lt_or_ge j k with h' | h'
            · exact HALL.out j z h' hz
            · obtain rfl : j = k := by omega
              obtain rfl : z = r := Option.some.inj (hz.symm.trans HR.out)
              exact ⟨cc, HT.out, by first | assumption | omega⟩
          · have hcc : 0 ≤ cc := by omega
            go_still_tail 13, (by kernel_rfl)
            change wpList _ _ _ _ _ (_ : World).drew
            go_wp2_with (go_at_call 16
                         refine (HC3.out _ (Below.refl _ _).drew).mono ?_
                         rintro e w4 ⟨c4, rfl, ht4, hb4⟩
                         have HT4 := Lib.hid ht4
                         have HB4 : Hid (Below w3.heap.size w3 w4) := Lib.hid (up_below' (Below.refl _ _).drew hb4)
                         clear hb4 ht4)
            go_meet
            exact ⟨k, c4 == 0, rfl, rfl, Place.here HH.out.now HR.out HALL.out HT.out hcc HT4.out, up_below' (up_below' HB.out HB3.out) HB4.out⟩
        · have hke : k = len := by omega
          subst hke
          have hd : decide ((k : Int) < (k : Int)) = false := decide_eq_false (by omega)
          go_wp2
          go_quiet (fail)
          go_wp2
          go_quiet (fail)
          go_wp2
          go_meet
          exact ⟨k, false, rfl, rfl, Place.end_ HH.out.now (by rw [HN.out]) HALL.out, (by first | exact HB.out | exact below_drewN (below_drewN HB.out _) _ | exact HB.out.drew.drew)⟩
    · have hK1 : kl = 0 := by omega
      subst hK1
      go_wp2
      go_meet
      exact ⟨0, false, rfl, rfl, Place.none HH.out.n1 HKL.out.symm, Below.refl _ _⟩
  case rest =>
    obtain ⟨k, b, rfl, rfl, hpl, hb⟩ := hcut
    have HPL := Lib.hid hpl
    have HBC := Lib.hid (up_below' HB0.out hb)
    have hdh := heap_below HD0.out hb
    have hah := heap_below HA0.out hb
    have ld := lt_of_heap hdh
    have la := lt_of_heap hah
    have d0 := cell_of_heap hdh 0
    have d1 := cell_of_heap hdh 1
    have d2 := cell_of_heap hdh 2
    have d3 := cell_of_heap hdh 3
    have a0 := cell_of_heap hah 0
    have a1 := cell_of_heap hah 1
    have a2 := cell_of_heap hah 2
    have a3 := cell_of_heap hah 3
    have HROW : Hid (RowX wc w1.heap.size 66 2 (.slice A len c) len (flat PairV.cells ps)) := Lib.hid (by have := HH.out.row.below HBC.out; rw [← HN.out] at this; exact this)
    have HB1 : Hid (Below w1.heap.size w1 wc) := Lib.hid (up_below' HH.out.below HBC.out)
    have hopv := HOP.out
    subst hopv
    have HDC := Lib.hid hdh
    clear hpl hb hdh hah HOP
    simp only [List.getElem?_toArray, List.getElem?_cons_zero, List.getElem?_cons_succ] at d0 d1 d2 d3 a0 a1 a2 a3
    have hkp : k = placeP dsc K st ∧ b = thereP dsc K st := HPL.out.2 (HH.out.fit.key (by simp))
    obtain ⟨hk, hbt⟩ := hkp
    cases b with
    | false => exact absurd (hbt.trans hth) (by decide)
    | true =>
      have hkl : k < len := by rw [HN.out, HH.out.now.len, hk]; exact there_lt hbt.symm
      obtain ⟨r, hr⟩ : ∃ r, ps[k]? = some r := ⟨_, List.getElem?_eq_getElem (by rw [← HN.out]; exact hkl)⟩
      have HPU := Lib.hid (HH.out.now.put (vA := vA) (vc := vc) (N := N) hr (HH.out.fit.key (by simp)).1 HH.out.fit.conc HH.out.fit.short HH.out.vAt hbt.symm hk)
      obtain ⟨g, cap, cur, hv, hge, hgh, hnc, hcm, hsz, htk⟩ := HROW.out.open_ (by omega)
      injection hv with hv1 _ hv2
      subst hv1
      subst hv2
      have HRP := Lib.hid (row_put (V := V) (vA := vA) (vc := vc) HN.out.symm HROW.out hr)
      obtain ⟨u1, cu1⟩ : ∃ u, wc.cell? ⟨g, k * 2 + 1, none⟩ = some u := ⟨cur[k * 2 + 1]'(by omega), by rw [cell_of_heap hgh]; exact Array.getElem?_eq_getElem _⟩
      have fu1 := free_of_heap hgh (k * 2 + 1)
      have hge' := Lib.hid hge
      clear hgh htk hsz a0 a1 a2 a3 hk hbt hcm hr
      go_wp2
      go_ret2
      exact ⟨_, c, ps.set k ⟨r.kA, r.kc, r.k, vA, vc, V⟩, (by first | (rw [List.length_set, ← HN.out]; rfl) | rw [List.length_set, ← HN.out]), by rw [List.length_set, ← HN.out]; exact HRP.out, HPU.out, Below.setCell (p := ⟨g, _, none⟩) HB1.out hge'.out _⟩

end Go.Proofs.YtffgkocokkhahaaDoor

/- laws.treeDeed: setn. PRINTED BY wip/tpl/gen_yrd.py. -/
namespace Go.Proofs.YtffgkocokkhahaaDoor
open Go.RowKit

set_option maxRecDepth 100000 in
set_option maxHeartbeats 3200000 in
theorem ld_setn {dsc : Bool} {n : Nat} {st : List PR} {ps : List PairV} {A : Option Addr} {c : Nat} {K V : List VV} {N : Int} {kA : Option Addr} {kc : Nat} {vA : Option Addr} {vc : Nat} {a : TAV} {w1 w : World} (h : DeedIn dsc n st ps A c ⟨.set, K, V, N⟩ kA kc vA vc a w1 w) (hth : thereP dsc K st = false) :
    Calls Tryd.prog 10 #[.bool dsc, .slice A ps.length c, .agg #[.string ⟨#[115, 101, 116]⟩, .slice kA K.length kc, .slice vA V.length vc, .int .i64 N], .agg #[.bool a.is, .int .i64 a.n, .slice a.R a.us.length a.c, .slice a.P a.rs.length a.pc]] w (LDeed dsc n st ⟨.set, K, V, N⟩ w1) := by
  unfold LDeed
  have hlen9 := h.len
  have hfN0 : -1000 ≤ N := h.fit.lo
  have hfN1 : N ≤ 1000 := h.fit.hi
  have hbs := h.below.size
  have HH := Lib.hid h
  obtain ⟨len, hlen⟩ : ∃ len, len = ps.length := ⟨_, rfl⟩
  obtain ⟨kl, hkl⟩ : ∃ kl, kl = K.length := ⟨_, rfl⟩
  obtain ⟨opv, hopv⟩ : ∃ opv : ByteArray, opv = ⟨#[115, 101, 116]⟩ := ⟨_, rfl⟩
  have HN := Lib.hid hlen
  have HKL := Lib.hid hkl
  have HOP := Lib.hid hopv
  rw [← hlen, ← hkl, ← hopv]
  rw [← hlen] at hlen9
  clear h hlen hkl hopv
  go_enter Tryd.func10, Tryd.ntmps10
  go_upto_if 15 with fail
  obtain ⟨W0, hW0⟩ : ∃ W0, W0 = (w.alloc (.cells #[.string opv, .slice kA kl kc, .slice vA V.length vc, .int .i64 N] 27)).alloc (.cells #[.bool a.is, .int .i64 a.n, .slice a.R a.us.length a.c, .slice a.P a.rs.length a.pc] 35) := ⟨_, rfl⟩
  rw [← hW0]
  have HB0 : Hid (Below w.heap.size w W0) := Lib.hid (by rw [hW0]; exact below_al2' w _ _)
  have HD0 : Hid (W0.heap[w.heap.size]? = some (.cells #[.string opv, .slice kA kl kc, .slice vA V.length vc, .int .i64 N] 27 (0, 0))) := Lib.hid (by rw [hW0]; exact (heap_alloc_ne _ _ _ (by simp)).trans (heap_new w _))
  have HA0 : Hid (W0.heap[w.heap.size + 1]? = some (.cells #[.bool a.is, .int .i64 a.n, .slice a.R a.us.length a.c, .slice a.P a.rs.length a.pc] 35 (0, 0))) := Lib.hid (by rw [hW0]; have := heap_new (w.alloc (.cells #[.string opv, .slice kA kl kc, .slice vA V.length vc, .int .i64 N] 27)) (.cells #[.bool a.is, .int .i64 a.n, .slice a.R a.us.length a.c, .slice a.P a.rs.length a.pc] 35); simpa using this)
  clear hW0
  go_cut [10, 11] from 12 to 49 (fun s10 s11 wx => ∃ (k : Nat) (b : Bool), s10 = .int .i64 (k : Int) ∧ s11 = .bool b ∧ Place dsc n st K k b ∧ Below W0.heap.size W0 wx)
  case first =>
    by_cases hK0 : 0 < kl
    · have hd0 : decide (0 < kl) = true := decide_eq_true hK0
      rw [hd0]
      go_wp2
      go_loopw [10] (fun i wr => ∃ k : Nat, k ≤ len ∧ i = .int .i64 (k : Int) ∧ Below W0.heap.size W0 wr ∧ ∀ (j : Nat) (r : PairV), j < k → ps[j]? = some r → ∃ c, Told dsc n K r c ∧ c < 0) (fun i _ => len - (intOf i).toNat)
      case atStart => exact ⟨0, by omega, rfl, Below.refl _ _, fun j r hj => by omega⟩
      case round =>
        obtain ⟨k, hk, rfl, hb, hall⟩ := hrel
        have HALL := Lib.hid hall
        have HB := Lib.hid hb
        have HBW := Lib.hid (up_below' HB0.out hb)
        have d1 := cell_of_heap (heap_below HD0.out hb) 1
        clear hall hb
        by_cases hlt : k < len
        · obtain ⟨r, hr⟩ : ∃ r, ps[k]? = some r := ⟨_, List.getElem?_eq_getElem (by rw [← HN.out]; exact hlt)⟩
          obtain ⟨⟨ad, rfl, hbl, h0, h1⟩, _⟩ := (HH.out.pairs HBW.out) k r hr
          have HR := Lib.hid hr
          have HC := Lib.hid (fun (w' : World) (hb : Below _ _ w') => by have := HH.out.cmp (by show 0 < K.length; rw [← HKL.out]; exact hK0) (List.mem_of_getElem? hr) (up_below' HBW.out hb); rw [← HKL.out] at this; exact this)
          have hd : decide ((k : Int) < (len : Int)) = true := decide_eq_true (by omega)
          clear hr h1
          go_wp2
          go_still_tail 13, (by kernel_rfl)
          change wpList _ _ _ _ _ (_ : World).drew
          go_wp2_with (go_at_call 16
                       refine (HC.out _ (Below.refl _ _).drew).mono ?_
                       rintro e w3 ⟨cc, rfl, ht, hb3⟩
                       have HT := Lib.hid ht
                       have HB3 : Hid (Below wr.heap.size wr w3) := Lib.hid (up_below' (Below.refl _ _).drew hb3)
                       have hbl3 : (ad.add (k * 2)).block < w3.heap.size := Nat.lt_of_lt_of_le hbl HB3.out.size
                       have g0 := (HB3.out.cell hbl).trans h0
                       have d3 := (HB3.out.cell (p := ⟨w.heap.size, 1, none⟩) (lt_of_heap (heap_below HD0.out HB.out))).trans d1
                       have HC3 := Lib.hid (fun (w' : World) (hb : Below w3.heap.size w3 w') => HC.out w' (up_below' HB3.out hb))
                       clear hb3 ht)
          · refine ⟨⟨k + 1, by omega, by push_cast; rfl, up_below' HB.out HB3.out, fun j z hj hz => ?_⟩, by simp [intOf]; omega⟩
            rcases Nat.lt_or_ge j k with h' | h'
            · exact HALL.out j z h' hz
            · obtain rfl : j = k := by omega
              obtain rfl : z = r := Option.some.inj (hz.symm.trans HR.out)
              exact ⟨cc, HT.out, by first | assumption | omega⟩
          · have hcc : 0 ≤ cc := by omega
            go_still_tail 13, (by kernel_rfl)
            change wpList _ _ _ _ _ (_ : World).drew
            go_wp2_with (go_at_call 16
                         refine (HC3.out _ (Below.refl _ _).drew).mono ?_
                         rintro e w4 ⟨c4, rfl, ht4, hb4⟩
                         have HT4 := Lib.hid ht4
                         have HB4 : Hid (Below w3.heap.size w3 w4) := Lib.hid (up_below' (Below.refl _ _).drew hb4)
                         clear hb4 ht4)
            go_meet
            exact ⟨k, c4 == 0, rfl, rfl, Place.here HH.out.now HR.out HALL.out HT.out hcc HT4.out, up_below' (up_below' HB.out HB3.out) HB4.out⟩
        · have hke : k = len := by omega
          subst hke
          have hd : decide ((k : Int) < (k : Int)) = false := decide_eq_false (by omega)
          go_wp2
          go_quiet (fail)
          go_wp2
          go_quiet (fail)
          go_wp2
          go_meet
          exact ⟨k, false, rfl, rfl, Place.end_ HH.out.now (by rw [HN.out]) HALL.out, (by first | exact HB.out | exact below_drewN (below_drewN HB.out _) _ | exact HB.out.drew.drew)⟩
    · have hK1 : kl = 0 := by omega
      subst hK1
      go_wp2
      go_meet
      exact ⟨0, false, rfl, rfl, Place.none HH.out.n1 HKL.out.symm, Below.refl _ _⟩
  case rest =>
    obtain ⟨k, b, rfl, rfl, hpl, hb⟩ := hcut
    have HPL := Lib.hid hpl
    have HBC := Lib.hid (up_below' HB0.out hb)
    have hdh := heap_below HD0.out hb
    have hah := heap_below HA0.out hb
    have ld := lt_of_heap hdh
    have la := lt_of_heap hah
    have d0 := cell_of_heap hdh 0
    have d1 := cell_of_heap hdh 1
    have d2 := cell_of_heap hdh 2
    have d3 := cell_of_heap hdh 3
    have a0 := cell_of_heap hah 0
    have a1 := cell_of_heap hah 1
    have a2 := cell_of_heap hah 2
    have a3 := cell_of_heap hah 3
    have HROW : Hid (RowX wc w1.heap.size 66 2 (.slice A len c) len (flat PairV.cells ps)) := Lib.hid (by have := HH.out.row.below HBC.out; rw [← HN.out] at this; exact this)
    have HB1 : Hid (Below w1.heap.size w1 wc) := Lib.hid (up_below' HH.out.below HBC.out)
    have hopv := HOP.out
    subst hopv
    have HDC := Lib.hid hdh
    clear hpl hb hdh hah HOP
    simp only [List.getElem?_toArray, List.getElem?_cons_zero, List.getElem?_cons_succ] at d0 d1 d2 d3 a0 a1 a2 a3
    have hkp : k = placeP dsc K st ∧ b = thereP dsc K st := HPL.out.2 (HH.out.fit.key (by simp))
    obtain ⟨hk, hbt⟩ := hkp
    cases b with
    | true => exact absurd (hbt.trans hth) (by decide)
    | false =>
      have hkl : k ≤ len := by rw [HN.out, HH.out.now.len]; exact HPL.out.1
      have HINS := Lib.hid (HH.out.now.ins (r := ⟨kA, kc, K, vA, vc, V⟩) (N := N) (HH.out.fit.key (by simp)).1 (HH.out.fit.key (by simp)).2 HH.out.fit.conc HH.out.fit.short ⟨HH.out.kAt, HH.out.vAt⟩ hbt.symm hk)
      obtain ⟨i0, hi, hz0, hz1, hz2⟩ := info_parts info_pair
      have hsB : w1.heap.size ≤ wc.heap.size := HB1.out.size
      have HOWN : Hid (∀ b, (Value.slice A len c).ownBlock = some b → b < w.heap.size) := Lib.hid (fun b hb => HH.out.row.lt (by rw [← HN.out]; exact hb))
      clear a0 a1 a2 a3 hk hbt
      go_wp2_with (first
        | (at_builtin
           refine wpList_append_x _ rfl (.tmp 62) (.tmp 64) 31 rfl w1.heap.size 66 i0 _ 2 48 Tryd.underlying31 hi hz0 hz1 hz2 rfl _ len (flat PairV.cells ps) rfl
             (HROW.out.below ((Below.refl _ _).alloc (Nat.le_refl _) _)) (some ⟨wc.heap.size, 0, none⟩) 1 1 [.slice none 0 0, .slice none 0 0] rfl rfl (fun _ => ⟨_, rfl, fun j u hu => World.news_of_block (heap_new wc _) j u hu⟩) (fun u hu => by simp at hu; subst hu; rfl) (by simp only [maxLen]; omega) (by omega) (by simp; omega) ?_
           intro v2 w2 hrow2 hg2 hat2
           have HO2 := Lib.hid hrow2; have HG2 := Lib.hid hg2; have HA2 := Lib.hid hat2; clear hrow2 hg2 hat2))
      obtain ⟨g, cap, cur, rfl, hge, hgh, hnc, hcm, hsz, htk⟩ := HO2.out.open_ (by omega)
      obtain ⟨q1, hq1⟩ : ∃ q1 : Nat, q1 = k + 1 := ⟨_, rfl⟩
      obtain ⟨m2, hm2⟩ : ∃ m2 : Nat, m2 = len + 1 := ⟨_, rfl⟩
      have hs1 : (k : Int) + 1 = (q1 : Int) := by omega
      have hs2 : IntKind.i64.wrap (q1 : Int) = (q1 : Int) := IntWalk.i64_in _ (by omega)
      rw [← hm2]
      have hcut1 := fun W => run_from (P := Tryd.prog) Tryd.underlying31 spair g m2 cap q1 (by omega) W
      have hcut2 := fun W => run_from (P := Tryd.prog) Tryd.underlying31 spair g m2 cap k (by omega) W
      have hgne : ¬ w.heap.size = g := by
        rcases HA2.out with h1 | h1
        · have := HOWN.out g (by exact h1.symm)
          omega
        · have : g = (wc.alloc (.cells #[.slice none 0 0, .slice none 0 0] 66)).heap.size := by simpa [Value.ownBlock] using h1
          simp at this
          omega
      have HCW : Hid (Chg (fun z => (Value.slice A len c).ownBlock = some z) wc w2) := Lib.hid (((Chg.refl _ wc).alloc _).next (Chg.of_grown HG2.out) (fun z _ h => h.symm))
      have HD2 : Hid (w2.heap[w.heap.size]? = some (.cells #[.string ⟨#[115, 101, 116]⟩, .slice kA kl kc, .slice vA V.length vc, .int .i64 N] 27 (0, 0))) := Lib.hid (heap_chg HDC.out HCW.out (fun h => by have := HOWN.out _ h; omega))
      have HB2 : Hid (Below w1.heap.size w1 w2) := Lib.hid (HB1.out.trans (HCW.out.below hsB (fun z h => HROW.out.ge h)))
      have HFD : Hid ((flat PairV.cells (ps.drop k)).length = (len - k) * 2) := Lib.hid (by rw [flat_length PairV.cells 2 PairV.two, List.length_drop, ← HN.out])
      have HGH := Lib.hid hgh
      have HTK := Lib.hid htk
      have HSZ := Lib.hid hsz
      have HCM := Lib.hid hcm
      have HQ1 := Lib.hid hq1
      have HM2 := Lib.hid hm2
      have HFL : Hid (∀ (j : Nat) (v : Value), (flat PairV.cells (ps.drop k))[j]? = some v → cur[k * 2 + j]? = some v) := Lib.hid (fun j v h => by
        have h1 : (flat PairV.cells ps)[k * 2 + j]? = some v := by
          rw [← flat_drop PairV.cells 2 PairV.two, List.getElem?_drop] at h
          exact h
        have h2 := (List.getElem?_eq_some_iff.1 h1).1
        rw [← Array.getElem?_toList, cur_split HTK.out, List.append_assoc, List.getElem?_append_left h2]
        exact h1)
      clear hgh htk hsz hcm hq1 hm2 d0 d1 d2 d3 ld la
      go_still_tail 7, (by kernel_rfl)
      change wpList _ _ _ _ _ (w2.drew)
      refine wpList_copy_rows rfl (.tmp 69) (.tmp 72) 31 31 rfl 66 2 Tryd.underlying31 spair (cutP g cap q1 2) (cutP g cap k 2) (m2 - q1) (cap - q1) (m2 - k) (cap - k) rfl rfl
        g (q1 * 2) cur 66 HGH.out (flat PairV.cells (ps.drop k)) ?c2 (by omega) ?c3 ?c4 (one_pairs _) ?_
      case c2 => rw [HFD.out, HQ1.out, HM2.out, show Nat.min (len + 1 - k) (len + 1 - (k + 1)) = len + 1 - (k + 1) from Nat.min_eq_right (by omega)]; omega
      case c3 =>
        intro hpos
        rw [HFD.out] at hpos
        refine ⟨by unfold cutP; rw [if_neg (by have := HQ1.out; omega)], ⟨g, k * 2, none⟩, by unfold cutP; rw [if_neg (by omega)], fun j v h => ?_⟩
        rw [add_mk]
        exact (cell_of_heap (w := w2) HGH.out _).trans (HFL.out j v h)
      case c4 => rw [HFD.out, HQ1.out]; have := HSZ.out; omega
      intro w3 HG3 HC3
      rw [HQ1.out] at HG3
      obtain ⟨L, hL⟩ : ∃ L, L = splice cur.toList ((k + 1) * 2) (flat PairV.cells (ps.drop k)) := ⟨_, rfl⟩
      have hLl : cap * 2 ≤ L.length := by
        have h1 : cap * 2 ≤ cur.toList.length := by simpa using HSZ.out
        rw [hL, length_splice _ _ _ (by rw [HFD.out]; omega)]
        exact h1
      have HG3' : Hid (w3.heap[g]? = some (.cells L.toArray 66 (0, 0))) := by rw [hL]; exact HG3
      have HLQ := Lib.hid hL
      obtain ⟨u1, cu1⟩ : ∃ u, w3.cell? ⟨g, k * 2, none⟩ = some u := ⟨L[k * 2]'(by omega), by rw [cell_of_heap HG3'.out, List.getElem?_toArray]; exact List.getElem?_eq_getElem _⟩
      obtain ⟨u2, cu2⟩ : ∃ u, w3.cell? ⟨g, k * 2 + 1, none⟩ = some u := ⟨L[k * 2 + 1]'(by omega), by rw [cell_of_heap HG3'.out, List.getElem?_toArray]; exact List.getElem?_eq_getElem _⟩
      have fu1 := free_of_heap HG3'.out (k * 2)
      have fu2 := free_of_heap HG3'.out (k * 2 + 1)
      have hd3 : w3.heap[w.heap.size]? = some (.cells #[.string ⟨#[115, 101, 116]⟩, .slice kA kl kc, .slice vA V.length vc, .int .i64 N] 27 (0, 0)) := heap_chg (w := w2.drew) HD2.out HC3.out hgne
      have d1 := cell_of_heap hd3 1
      have d2 := cell_of_heap hd3 2
      simp only [List.getElem?_toArray, List.getElem?_cons_zero, List.getElem?_cons_succ] at d1 d2
      have HB3 : Hid (Below w1.heap.size w1 w3) := Lib.hid ((HB2.out.drew).trans (HC3.out.below HB2.out.size (fun z e => by omega)))
      have hkm : k < m2 := by have := HM2.out; omega
      clear hL hd3
      go_wp2
      go_ret2
      refine ⟨some ⟨g, 0, none⟩, cap, ps.take k ++ ⟨kA, kc, K, vA, vc, V⟩ :: ps.drop k, ?_, ?_, HINS.out, Below.setCell (p := ⟨g, _, none⟩) (Below.setCell (p := ⟨g, _, none⟩) HB3.out hge _) hge _⟩
      · rw [show (ps.take k ++ (⟨kA, kc, K, vA, vc, V⟩ : PairV) :: ps.drop k).length = m2 by rw [HM2.out, List.length_append, List.length_take, List.length_cons, List.length_drop, ← HN.out]; omega]
        rfl
      · rw [show (ps.take k ++ (⟨kA, kc, K, vA, vc, V⟩ : PairV) :: ps.drop k).length = len + 1 by rw [List.length_append, List.length_take, List.length_cons, List.length_drop, ← HN.out]; omega]
        exact row_ins HN.out.symm hkl HTK.out rfl HSZ.out hnc HCM.out hge (by rw [← HLQ.out]; exact HG3'.out) (by rw [HKL.out])

end Go.Proofs.YtffgkocokkhahaaDoor
