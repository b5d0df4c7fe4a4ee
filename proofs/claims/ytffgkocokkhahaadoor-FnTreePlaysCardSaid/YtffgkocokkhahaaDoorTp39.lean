/-
  laws.treeDeed: first. PRINTED BY wip/tpl/gen_yrd.py. || laws.treeDeed: last. PRINTED BY wip/tpl/gen_yrd.py.
-/
import Derived.Test.YtffgkocokkhahaaDoorTp36
import Derived.Deep.CutRange
import Derived.Deep.RegionLaw
import Derived.BigQuiet
import Derived.StillTailTactics
import Derived.Laws.Small

/- laws.treeDeed: first. PRINTED BY wip/tpl/gen_yrd.py. -/
namespace Go.Proofs.YtffgkocokkhahaaDoor
open Go.RowKit

set_option maxRecDepth 100000 in
set_option maxHeartbeats 3200000 in
theorem ld_first {dsc : Bool} {n : Nat} {st : List PR} {ps : List PairV} {A : Option Addr} {c : Nat} {K V : List VV} {N : Int} {kA : Option Addr} {kc : Nat} {vA : Option Addr} {vc : Nat} {a : TAV} {w1 w : World} (h : DeedIn dsc n st ps A c ⟨.first, K, V, N⟩ kA kc vA vc a w1 w) :
    Calls Tryd.prog 10 #[.bool dsc, .slice A ps.length c, .agg #[.string ⟨#[102, 105, 114, 115, 116]⟩, .slice kA K.length kc, .slice vA V.length vc, .int .i64 N], .agg #[.bool a.is, .int .i64 a.n, .slice a.R a.us.length a.c, .slice a.P a.rs.length a.pc]] w (LDeed dsc n st ⟨.first, K, V, N⟩ w1) := by
  unfold LDeed
  have hlen9 := h.len
  have hfN0 : -1000 ≤ N := h.fit.lo
  have hfN1 : N ≤ 1000 := h.fit.hi
  have hbs := h.below.size
  have HH := Lib.hid h
  obtain ⟨len, hlen⟩ : ∃ len, len = ps.length := ⟨_, rfl⟩
  obtain ⟨kl, hkl⟩ : ∃ kl, kl = K.length := ⟨_, rfl⟩
  obtain ⟨opv, hopv⟩ : ∃ opv : ByteArray, opv = ⟨#[102, 105, 114, 115, 116]⟩ := ⟨_, rfl⟩
  have HN := Lib.hid hlen
  have HKL := Lib.hid hkl
  have HOP := Lib.hid hopv
  rw [← hlen, ← hkl, ← hopv]
  rw [← hlen] at hlen9
  clear h hlen hkl hopv
  go_enter Tryd.func10, Tryd.ntmps10
  go_upto_if 15 with fail
  obtain ⟨W0, hW0⟩ : ∃ W0, W0 = (w.alloc (.cells #[.string opv, .slice kA kl kc, .slice vA V.length vc, .int .i64 N] 27)).alloc (.cells #[.bool a.is, .int .i64 a.n, .slice a.R a.us.length a.c, .slice a.P a.rs.length a.pc] 35) := ⟨_, rfl⟩
  rw [← hW0]
  have HB0 : Hid (Below w.heap.size w W0) := Lib.hid (by rw [hW0]; exact below_al2' w _ _)
  have HD0 : Hid (W0.heap[w.heap.size]? = some (.cells #[.string opv, .slice kA kl kc, .slice vA V.length vc, .int .i64 N] 27 (0, 0))) := Lib.hid (by rw [hW0]; exact (heap_alloc_ne _ _ _ (by simp)).trans (heap_new w _))
  have HA0 : Hid (W0.heap[w.heap.size + 1]? = some (.cells #[.bool a.is, .int .i64 a.n, .slice a.R a.us.length a.c, .slice a.P a.rs.length a.pc] 35 (0, 0))) := Lib.hid (by rw [hW0]; have := heap_new (w.alloc (.cells #[.string opv, .slice kA kl kc, .slice vA V.length vc, .int .i64 N] 27)) (.cells #[.bool a.is, .int .i64 a.n, .slice a.R a.us.length a.c, .slice a.P a.rs.length a.pc] 35); simpa using this)
  clear hW0
  go_cut [10, 11] from 12 to 49 (fun s10 s11 wx => ∃ (k : Nat) (b : Bool), s10 = .int .i64 (k : Int) ∧ s11 = .bool b ∧ Place dsc n st K k b ∧ Below W0.heap.size W0 wx)
  case first =>
    by_cases hK0 : 0 < kl
    · have hd0 : decide (0 < kl) = true := decide_eq_true hK0
      rw [hd0]
      go_wp2
      go_loopw [10] (fun i wr => ∃ k : Nat, k ≤ len ∧ i = .int .i64 (k : Int) ∧ Below W0.heap.size W0 wr ∧ ∀ (j : Nat) (r : PairV), j < k → ps[j]? = some r → ∃ c, Told dsc n K r c ∧ c < 0) (fun i _ => len - (intOf i).toNat)
      case atStart => exact ⟨0, by omega, rfl, Below.refl _ _, fun j r hj => by omega⟩
      case round =>
        obtain ⟨k, hk, rfl, hb, hall⟩ := hrel
        have HALL := Lib.hid hall
        have HB := Lib.hid hb
        have HBW := Lib.hid (up_below' HB0.out hb)
        have d1 := cell_of_heap (heap_below HD0.out hb) 1
        clear hall hb
        by_cases hlt : k < len
        · obtain ⟨r, hr⟩ : ∃ r, ps[k]? = some r := ⟨_, List.getElem?_eq_getElem (by rw [← HN.out]; exact hlt)⟩
          obtain ⟨⟨ad, rfl, hbl, h0, h1⟩, _⟩ := (HH.out.pairs HBW.out) k r hr
          have HR := Lib.hid hr
          have HC := Lib.hid (fun (w' : World) (hb : Below _ _ w') => by have := HH.out.cmp (by show 0 < K.length; rw [← HKL.out]; exact hK0) (List.mem_of_getElem? hr) (up_below' HBW.out hb); rw [← HKL.out] at this; exact this)
          have hd : decide ((k : Int) < (len : Int)) = true := decide_eq_true (by omega)
          clear hr h1
          go_wp2
          go_still_tail 13, (by kernel_rfl)
          change wpList _ _ _ _ _ (_ : World).drew
          go_wp2_with (go_at_call 16
                       refine (HC.out _ (Below.refl _ _).drew).mono ?_
                       rintro e w3 ⟨cc, rfl, ht, hb3⟩
                       have HT := Lib.hid ht
                       have HB3 : Hid (Below wr.heap.size wr w3) := Lib.hid (up_below' (Below.refl _ _).drew hb3)
                       have hbl3 : (ad.add (k * 2)).block < w3.heap.size := Nat.lt_of_lt_of_le hbl HB3.out.size
                       have g0 := (HB3.out.cell hbl).trans h0
                       have d3 := (HB3.out.cell (p := ⟨w.heap.size, 1, none⟩) (lt_of_heap (heap_below HD0.out HB.out))).trans d1
                       have HC3 := Lib.hid (fun (w' : World) (hb : Below w3.heap.size w3 w') => HC.out w' (up_below' HB3.out hb))
                       clear hb3 ht)
          · refine ⟨⟨k + 1, by omega, by push_cast; rfl, up_below' HB.out HB3.out, fun j z hj hz => ?_⟩, by simp [intOf]; omega⟩
            rcases Nat.lt_or_ge j k with h' | h'
            · exact HALL.out j z h' hz
            · obtain rfl : j = k := by omega
              obtain rfl : z = r := Option.some.inj (hz.symm.trans HR.out)
              exact ⟨cc, HT.out, by first | assumption | omega⟩
          · have hcc : 0 ≤ cc := by omega
            go_still_tail 13, (by kernel_rfl)
            change wpList _ _ _ _ _ (_ : World).drew
            go_wp2_with (go_at_call 16
                         refine (HC3.out _ (Below.refl _ _).drew).mono ?_
                         rintro e w4 ⟨c4, rfl, ht4, hb4⟩
                         have HT4 := Lib.hid ht4
                         have HB4 : Hid (Below w3.heap.size w3 w4) := Lib.hid (up_below' (Below.refl _ _).drew hb4)
                         clear hb4 ht4)
            go_meet
            exact ⟨k, c4 == 0, rfl, rfl, Place.here HH.out.now HR.out HALL.out HT.out hcc HT4.out, up_below' (up_below' HB.out HB3.out) HB4.out⟩
        · have hke : k = len := by omega
          subst hke
          have hd : decide ((k : Int) < (k : Int)) = false := decide_eq_false (by omega)
          go_wp2
          go_quiet (fail)
          go_wp2
          go_quiet (fail)
          go_wp2
          go_meet
          exact ⟨k, false, rfl, rfl, Place.end_ HH.out.now (by rw [HN.out]) HALL.out, (by first | exact HB.out | exact below_drewN (below_drewN HB.out _) _ | exact HB.out.drew.drew)⟩
    · have hK1 : kl = 0 := by omega
      subst hK1
      go_wp2
      go_meet
      exact ⟨0, false, rfl, rfl, Place.none HH.out.n1 HKL.out.symm, Below.refl _ _⟩
  case rest =>
    obtain ⟨k, b, rfl, rfl, hpl, hb⟩ := hcut
    have HPL := Lib.hid hpl
    have HBC := Lib.hid (up_below' HB0.out hb)
    have hdh := heap_below HD0.out hb
    have hah := heap_below HA0.out hb
    have ld := lt_of_heap hdh
    have la := lt_of_heap hah
    have d0 := cell_of_heap hdh 0
    have d1 := cell_of_heap hdh 1
    have d2 := cell_of_heap hdh 2
    have d3 := cell_of_heap hdh 3
    have a0 := cell_of_heap hah 0
    have a1 := cell_of_heap hah 1
    have a2 := cell_of_heap hah 2
    have a3 := cell_of_heap hah 3
    have HROW : Hid (RowX wc w1.heap.size 66 2 (.slice A len c) len (flat PairV.cells ps)) := Lib.hid (by have := HH.out.row.below HBC.out; rw [← HN.out] at this; exact this)
    have HB1 : Hid (Below w1.heap.size w1 wc) := Lib.hid (up_below' HH.out.below HBC.out)
    have hopv := HOP.out
    subst hopv
    have HDC := Lib.hid hdh
    clear hpl hb hdh hah HOP
    simp only [List.getElem?_toArray, List.getElem?_cons_zero, List.getElem?_cons_succ] at d0 d1 d2 d3 a0 a1 a2 a3
    have hN0 : 0 ≤ N := by
      rcases Int.lt_or_le N 0 with h1 | h1
      · exact absurd (HH.out.fit.pos h1) (by simp)
      · exact h1
    obtain ⟨nn, rfl⟩ : ∃ nn : Nat, N = nn := ⟨N.toNat, by omega⟩
    have hcap : len ≤ c := HROW.out.capLe
    obtain ⟨mm, hmm⟩ : ∃ mm : Nat, mm = min nn len := ⟨_, rfl⟩
    have hml : mm ≤ len := by omega
    have HS : Hid (∀ (w' : World), Below wc.heap.size wc w' → Calls Tryd.prog 23 #[.slice a.P a.rs.length a.pc, .slice A mm c] w' fun e w'' => e = .returned (.bool true) ∧ Below w'.heap.size w' w'') := Lib.hid (fun w' hb => by
      have hout := HH.out.says.ps (st.take nn) rfl
      have e1 : (ps.take mm).map PairV.pr = st.take nn := by
        rw [List.map_take, HH.out.now.prs, hmm, HN.out, HH.out.now.len]
        rw [List.take_eq_take_iff]
        omega
      have hs := same_of_out HH.out.now HH.out.n3 (qs := ps.take mm) (by rw [e1]; exact hout) (fun r hr => List.mem_of_mem_take hr)
      have hl : (ps.take mm).length = mm := by rw [List.length_take, ← HN.out]; omega
      have := samePairs_true a.rs (ps.take mm) a.P A a.pc c w' ((HH.out.rs.below HB1.out).below hb) (((HH.out.pairs HBC.out).below hb).take mm) hs (by rw [hs.1, hl]; omega)
      rw [hl] at this
      exact this)
    have hcut := fun W => run_part0 (P := Tryd.prog) Tryd.underlying31 spair A len c mm (by omega) W
    have HMM := Lib.hid hmm
    clear a0 a1 a2 d1 d2
    rcases Nat.lt_or_ge len nn with hlt | hge
    · obtain rfl : mm = len := by omega
      have hif : (mm : Int) < (nn : Int) := by omega
      clear hmm
      go_wp2
      go_region_law
        (first
          | (go_simp; go_at_call 23
             refine (HS.out _ (by first | exact Below.refl _ _ | exact (Below.refl _ _).drew)).mono ?_
             rintro e w4 ⟨rfl, hb4'⟩
             have HB4 : Hid (Below wc.heap.size wc w4) := Lib.hid (by first | exact hb4' | exact ⟨hb4'.os, hb4'.tape, hb4'.output, hb4'.size, hb4'.block⟩)
             clear hb4'))
      all_goals
        go_wp2
        go_ret2
        exact ⟨_, c, ps, (by first | (rw [← HN.out]; rfl) | rw [← HN.out]), by rw [← HN.out]; exact HROW.out.below HB4.out, HH.out.now.same rfl, up_below' HB1.out HB4.out⟩
    · obtain rfl : mm = nn := by omega
      have hif : ¬ (len : Int) < (mm : Int) := by omega
      have hif2 : ((len : Int) < (mm : Int)) = False := eq_false hif
      clear hmm
      go_wp2
      go_region_law
        (first
          | (go_simp; go_at_call 23
             refine (HS.out _ (by first | exact Below.refl _ _ | exact (Below.refl _ _).drew)).mono ?_
             rintro e w4 ⟨rfl, hb4'⟩
             have HB4 : Hid (Below wc.heap.size wc w4) := Lib.hid (by first | exact hb4' | exact ⟨hb4'.os, hb4'.tape, hb4'.output, hb4'.size, hb4'.block⟩)
             clear hb4'))
      all_goals
        go_wp2
        go_ret2
        exact ⟨_, c, ps, (by first | (rw [← HN.out]; rfl) | rw [← HN.out]), by rw [← HN.out]; exact HROW.out.below HB4.out, HH.out.now.same rfl, up_below' HB1.out HB4.out⟩

end Go.Proofs.YtffgkocokkhahaaDoor

/- laws.treeDeed: last. PRINTED BY wip/tpl/gen_yrd.py. -/
namespace Go.Proofs.YtffgkocokkhahaaDoor
open Go.RowKit

set_option maxRecDepth 100000 in
set_option maxHeartbeats 3200000 in
theorem ld_last {dsc : Bool} {n : Nat} {st : List PR} {ps : List PairV} {A : Option Addr} {c : Nat} {K V : List VV} {N : Int} {kA : Option Addr} {kc : Nat} {vA : Option Addr} {vc : Nat} {a : TAV} {w1 w : World} (h : DeedIn dsc n st ps A c ⟨.last, K, V, N⟩ kA kc vA vc a w1 w) :
    Calls Tryd.prog 10 #[.bool dsc, .slice A ps.length c, .agg #[.string ⟨#[108, 97, 115, 116]⟩, .slice kA K.length kc, .slice vA V.length vc, .int .i64 N], .agg #[.bool a.is, .int .i64 a.n, .slice a.R a.us.length a.c, .slice a.P a.rs.length a.pc]] w (LDeed dsc n st ⟨.last, K, V, N⟩ w1) := by
  unfold LDeed
  have hlen9 := h.len
  have hfN0 : -1000 ≤ N := h.fit.lo
  have hfN1 : N ≤ 1000 := h.fit.hi
  have hbs := h.below.size
  have HH := Lib.hid h
  obtain ⟨len, hlen⟩ : ∃ len, len = ps.length := ⟨_, rfl⟩
  obtain ⟨kl, hkl⟩ : ∃ kl, kl = K.length := ⟨_, rfl⟩
  obtain ⟨opv, hopv⟩ : ∃ opv : ByteArray, opv = ⟨#[108, 97, 115, 116]⟩ := ⟨_, rfl⟩
  have HN := Lib.hid hlen
  have HKL := Lib.hid hkl
  have HOP := Lib.hid hopv
  rw [← hlen, ← hkl, ← hopv]
  rw [← hlen] at hlen9
  clear h hlen hkl hopv
  go_enter Tryd.func10, Tryd.ntmps10
  go_upto_if 15 with fail
  obtain ⟨W0, hW0⟩ : ∃ W0, W0 = (w.alloc (.cells #[.string opv, .slice kA kl kc, .slice vA V.length vc, .int .i64 N] 27)).alloc (.cells #[.bool a.is, .int .i64 a.n, .slice a.R a.us.length a.c, .slice a.P a.rs.length a.pc] 35) := ⟨_, rfl⟩
  rw [← hW0]
  have HB0 : Hid (Below w.heap.size w W0) := Lib.hid (by rw [hW0]; exact below_al2' w _ _)
  have HD0 : Hid (W0.heap[w.heap.size]? = some (.cells #[.string opv, .slice kA kl kc, .slice vA V.length vc, .int .i64 N] 27 (0, 0))) := Lib.hid (by rw [hW0]; exact (heap_alloc_ne _ _ _ (by simp)).trans (heap_new w _))
  have HA0 : Hid (W0.heap[w.heap.size + 1]? = some (.cells #[.bool a.is, .int .i64 a.n, .slice a.R a.us.length a.c, .slice a.P a.rs.length a.pc] 35 (0, 0))) := Lib.hid (by rw [hW0]; have := heap_new (w.alloc (.cells #[.string opv, .slice kA kl kc, .slice vA V.length vc, .int .i64 N] 27)) (.cells #[.bool a.is, .int .i64 a.n, .slice a.R a.us.length a.c, .slice a.P a.rs.length a.pc] 35); simpa using this)
  clear hW0
  go_cut [10, 11] from 12 to 49 (fun s10 s11 wx => ∃ (k : Nat) (b : Bool), s10 = .int .i64 (k : Int) ∧ s11 = .bool b ∧ Place dsc n st K k b ∧ Below W0.heap.size W0 wx)
  case first =>
    by_cases hK0 : 0 < kl
    · have hd0 : decide (0 < kl) = true := decide_eq_true hK0
      rw [hd0]
      go_wp2
      go_loopw [10] (fun i wr => ∃ k : Nat, k ≤ len ∧ i = .int .i64 (k : Int) ∧ Below W0.heap.size W0 wr ∧ ∀ (j : Nat) (r : PairV), j < k → ps[j]? = some r → ∃ c, Told dsc n K r c ∧ c < 0) (fun i _ => len - (intOf i).toNat)
      case atStart => exact ⟨0, by omega, rfl, Below.refl _ _, fun j r hj => by omega⟩
      case round =>
        obtain ⟨k, hk, rfl, hb, hall⟩ := hrel
        have HALL := Lib.hid hall
        have HB := Lib.hid hb
        have HBW := Lib.hid (up_below' HB0.out hb)
        have d1 := cell_of_heap (heap_below HD0.out hb) 1
        clear hall hb
        by_cases hlt : k < len
        · obtain ⟨r, hr⟩ : ∃ r, ps[k]? = some r := ⟨_, List.getElem?_eq_getElem (by rw [← HN.out]; exact hlt)⟩
          obtain ⟨⟨ad, rfl, hbl, h0, h1⟩, _⟩ := (HH.out.pairs HBW.out) k r hr
          have HR := Lib.hid hr
          have HC := Lib.hid (fun (w' : World) (hb : Below _ _ w') => by have := HH.out.cmp (by show 0 < K.length; rw [← HKL.out]; exact hK0) (List.mem_of_getElem? hr) (up_below' HBW.out hb); rw [← HKL.out] at this; exact this)
          have hd : decide ((k : Int) < (len : Int)) = true := decide_eq_true (by omega)
          clear hr h1
          go_wp2
          go_still_tail 13, (by kernel_rfl)
          change wpList _ _ _ _ _ (_ : World).drew
          go_wp2_with (go_at_call 16
                       refine (HC.out _ (Below.refl _ _).drew).mono ?_
                       rintro e w3 ⟨cc, rfl, ht, hb3⟩
                       have HT := Lib.hid ht
                       have HB3 : Hid (Below wr.heap.size wr w3) := Lib.hid (up_below' (Below.refl _ _).drew hb3)
                       have hbl3 : (ad.add (k * 2)).block < w3.heap.size := Nat.lt_of_lt_of_le hbl HB3.out.size
                       have g0 := (HB3.out.cell hbl).trans h0
                       have d3 := (HB3.out.cell (p := ⟨w.heap.size, 1, none⟩) (lt_of_heap (heap_below HD0.out HB.out))).trans d1
                       have HC3 := Lib.hid (fun (w' : World) (hb : Below w3.heap.size w3 w') => HC.out w' (up_below' HB3.out hb))
                       clear hb3 ht)
          · refine ⟨⟨k + 1, by omega, by push_cast; rfl, up_below' HB.out HB3.out, fun j z hj hz => ?_⟩, by simp [intOf]; omega⟩
            rcases Nat.lt_or_ge j k with h' | h'
            · exact HALL.out j z h' hz
            · obtain rfl : j = k := by omega
              obtain rfl : z = r := Option.some.inj (hz.symm.trans HR.out)
              exact ⟨cc, HT.out, by first | assumption | omega⟩
          · have hcc : 0 ≤ cc := by omega
            go_still_tail 13, (by kernel_rfl)
            change wpList _ _ _ _ _ (_ : World).drew
            go_wp2_with (go_at_call 16
                         refine (HC3.out _ (Below.refl _ _).drew).mono ?_
                         rintro e w4 ⟨c4, rfl, ht4, hb4⟩
                         have HT4 := Lib.hid ht4
                         have HB4 : Hid (Below w3.heap.size w3 w4) := Lib.hid (up_below' (Below.refl _ _).drew hb4)
                         clear hb4 ht4)
            go_meet
            exact ⟨k, c4 == 0, rfl, rfl, Place.here HH.out.now HR.out HALL.out HT.out hcc HT4.out, up_below' (up_below' HB.out HB3.out) HB4.out⟩
        · have hke : k = len := by omega
          subst hke
          have hd : decide ((k : Int) < (k : Int)) = false := decide_eq_false (by omega)
          go_wp2
          go_quiet (fail)
          go_wp2
          go_quiet (fail)
          go_wp2
          go_meet
          exact ⟨k, false, rfl, rfl, Place.end_ HH.out.now (by rw [HN.out]) HALL.out, (by first | exact HB.out | exact below_drewN (below_drewN HB.out _) _ | exact HB.out.drew.drew)⟩
    · have hK1 : kl = 0 := by omega
      subst hK1
      go_wp2
      go_meet
      exact ⟨0, false, rfl, rfl, Place.none HH.out.n1 HKL.out.symm, Below.refl _ _⟩
  case rest =>
    obtain ⟨k, b, rfl, rfl, hpl, hb⟩ := hcut
    have HPL := Lib.hid hpl
    have HBC := Lib.hid (up_below' HB0.out hb)
    have hdh := heap_below HD0.out hb
    have hah := heap_below HA0.out hb
    have ld := lt_of_heap hdh
    have la := lt_of_heap hah
    have d0 := cell_of_heap hdh 0
    have d1 := cell_of_heap hdh 1
    have d2 := cell_of_heap hdh 2
    have d3 := cell_of_heap hdh 3
    have a0 := cell_of_heap hah 0
    have a1 := cell_of_heap hah 1
    have a2 := cell_of_heap hah 2
    have a3 := cell_of_heap hah 3
    have HROW : Hid (RowX wc w1.heap.size 66 2 (.slice A len c) len (flat PairV.cells ps)) := Lib.hid (by have := HH.out.row.below HBC.out; rw [← HN.out] at this; exact this)
    have HB1 : Hid (Below w1.heap.size w1 wc) := Lib.hid (up_below' HH.out.below HBC.out)
    have hopv := HOP.out
    subst hopv
    have HDC := Lib.hid hdh
    clear hpl hb hdh hah HOP
    simp only [List.getElem?_toArray, List.getElem?_cons_zero, List.getElem?_cons_succ] at d0 d1 d2 d3 a0 a1 a2 a3
    have hN0 : 0 ≤ N := by
      rcases Int.lt_or_le N 0 with h1 | h1
      · exact absurd (HH.out.fit.pos h1) (by simp)
      · exact h1
    have hwl : IntKind.i64.wrap ((len : Int) - 1) = (len : Int) - 1 := IntWalk.i64_in _ (by omega)
    obtain ⟨ql, hql⟩ : ∃ ql : List PairV, ql = (ps.take len).reverse.take N.toNat := ⟨_, rfl⟩
    obtain ⟨mm, hmm⟩ : ∃ mm : Nat, mm = ql.length := ⟨_, rfl⟩
    have HBP : Hid (∀ (w' : World), Below wc.heap.size wc w' → Calls Tryd.prog 24 #[.slice A len c, .int .i64 ((len : Int) - 1), .int .i64 N] w' fun y w'' => ∃ A5 c5, y = .returned (.slice A5 mm c5) ∧ PairsAt w'' A5 ql ∧ Below w'.heap.size w' w'') := Lib.hid (fun w' hb => by
      have h := backPairs_any ps A c len N w' ((HH.out.pairs HBC.out).below hb) (by rw [← HN.out]; omega) (by rw [← HN.out]; omega) hN0 (by omega)
      rw [← HN.out, ← hql] at h
      refine h.mono ?_
      rintro y w'' ⟨A5, c5, rfl, hown, hb5⟩
      have hbT := HB1.out
      refine ⟨A5, c5, by rw [hmm], pairs_reads (Reads.of_own hown) rfl (fun r hr => ?_), hb5⟩
      have hrm : r ∈ ps := by
        rw [hql] at hr
        exact List.mem_of_mem_take (List.mem_reverse.1 (List.mem_of_mem_take hr))
      exact ⟨(((HH.out.now.at_ r hrm).1.below HB1.out).below hb).below hb5, (((HH.out.now.at_ r hrm).2.below HB1.out).below hb).below hb5⟩)
    have HS : Hid (∀ (w' : World) A5 c5, Below wc.heap.size wc w' → PairsAt w' A5 ql → Calls Tryd.prog 23 #[.slice a.P a.rs.length a.pc, .slice A5 mm c5] w' fun e w'' => e = .returned (.bool true) ∧ Below w'.heap.size w' w'') := Lib.hid (fun w' A5 c5 hb h5 => by
      have hout := HH.out.says.ps (st.reverse.take N.toNat) rfl
      have e1 : ql.map PairV.pr = st.reverse.take N.toNat := by
        rw [hql, List.map_take, List.map_reverse, List.map_take, HH.out.now.prs, HN.out, HH.out.now.len, List.take_length]
      have hs := same_of_out HH.out.now HH.out.n3 (qs := ql) (by rw [e1]; exact hout) (fun r hr => by
        rw [hql] at hr
        exact List.mem_of_mem_take (List.mem_reverse.1 (List.mem_of_mem_take hr)))
      have hle : ql.length ≤ len := by rw [hql, List.length_take, List.length_reverse, List.length_take]; omega
      rw [hmm]
      exact samePairs_true a.rs ql a.P A5 a.pc c5 w' ((HH.out.rs.below HB1.out).below hb) h5 hs (by rw [hs.1]; omega))
    clear a0 a1 a2 d1 d2 hql hmm
    go_wp2
    go_region_law
      (first
        | (go_simp; go_at_call 24
           refine (HBP.out _ (by first | exact Below.refl _ _ | exact (Below.refl _ _).drew)).mono ?_
           rintro e w3 ⟨A5, c5, rfl, h5, hb3'⟩
           have HP5 := Lib.hid h5
           have hb3 : Below wc.heap.size wc w3 := (by first | exact hb3' | exact ⟨hb3'.os, hb3'.tape, hb3'.output, hb3'.size, hb3'.block⟩)
           have HB3 := Lib.hid hb3
           have a3' := (hb3.cell (p := ⟨w.heap.size + 1, 3, none⟩) la).trans a3
           clear hb3 hb3' h5)
        | (go_simp; go_at_call 23
           refine (HS.out _ A5 c5 HB3.out HP5.out).mono ?_
           rintro e w4 ⟨rfl, hb4'⟩
           have HB4 : Hid (Below wc.heap.size wc w4) := Lib.hid (up_below' HB3.out hb4')
           clear hb4'))
    all_goals
      go_wp2
      go_ret2
      exact ⟨_, c, ps, (by first | (rw [← HN.out]; rfl) | rw [← HN.out]), by rw [← HN.out]; exact HROW.out.below HB4.out, HH.out.now.same rfl, up_below' HB1.out HB4.out⟩

end Go.Proofs.YtffgkocokkhahaaDoor
