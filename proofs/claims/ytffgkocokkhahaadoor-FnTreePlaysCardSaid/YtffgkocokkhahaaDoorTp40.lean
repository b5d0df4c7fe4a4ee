/-
  laws.treeDeed: seekf. PRINTED BY wip/tpl/gen_yrd.py.
-/
import Derived.Test.YtffgkocokkhahaaDoorTp36
import Derived.Deep.CutRange
import Derived.Deep.RegionLaw
import Derived.BigQuiet
import Derived.StillTailTactics
import Derived.Laws.Small

/- laws.treeDeed: seekf. PRINTED BY wip/tpl/gen_yrd.py. -/
namespace Go.Proofs.YtffgkocokkhahaaDoor
open Go.RowKit

set_option maxRecDepth 100000 in
set_option maxHeartbeats 3200000 in
theorem ld_seekf {dsc : Bool} {n : Nat} {st : List PR} {ps : List PairV} {A : Option Addr} {c : Nat} {K V : List VV} {N : Int} {kA : Option Addr} {kc : Nat} {vA : Option Addr} {vc : Nat} {a : TAV} {w1 w : World} (h : DeedIn dsc n st ps A c ⟨.seek, K, V, N⟩ kA kc vA vc a w1 w) (hNs : 0 ≤ N) :
    Calls Tryd.prog 10 #[.bool dsc, .slice A ps.length c, .agg #[.string ⟨#[115, 101, 101, 107]⟩, .slice kA K.length kc, .slice vA V.length vc, .int .i64 N], .agg #[.bool a.is, .int .i64 a.n, .slice a.R a.us.length a.c, .slice a.P a.rs.length a.pc]] w (LDeed dsc n st ⟨.seek, K, V, N⟩ w1) := by
  unfold LDeed
  have hlen9 := h.len
  have hfN0 : -1000 ≤ N := h.fit.lo
  have hfN1 : N ≤ 1000 := h.fit.hi
  have hbs := h.below.size
  have HH := Lib.hid h
  obtain ⟨len, hlen⟩ : ∃ len, len = ps.length := ⟨_, rfl⟩
  obtain ⟨kl, hkl⟩ : ∃ kl, kl = K.length := ⟨_, rfl⟩
  obtain ⟨opv, hopv⟩ : ∃ opv : ByteArray, opv = ⟨#[115, 101, 101, 107]⟩ := ⟨_, rfl⟩
  have HN := Lib.hid hlen
  have HKL := Lib.hid hkl
  have HOP := Lib.hid hopv
  rw [← hlen, ← hkl, ← hopv]
  rw [← hlen] at hlen9
  clear h hlen hkl hopv
  go_enter Tryd.func10, Tryd.ntmps10
  go_upto_if 15 with fail
  obtain ⟨W0, hW0⟩ : ∃ W0, W0 = (w.alloc (.cells #[.string opv, .slice kA kl kc, .slice vA V.length vc, .int .i64 N] 27)).alloc (.cells #[.bool a.is, .int .i64 a.n, .slice a.R a.us.length a.c, .slice a.P a.rs.length a.pc] 35) := ⟨_, rfl⟩
  rw [← hW0]
  have HB0 : Hid (Below w.heap.size w W0) := Lib.hid (by rw [hW0]; exact below_al2' w _ _)
  have HD0 : Hid (W0.heap[w.heap.size]? = some (.cells #[.string opv, .slice kA kl kc, .slice vA V.length vc, .int .i64 N] 27 (0, 0))) := Lib.hid (by rw [hW0]; exact (heap_alloc_ne _ _ _ (by simp)).trans (heap_new w _))
  have HA0 : Hid (W0.heap[w.heap.size + 1]? = some (.cells #[.bool a.is, .int .i64 a.n, .slice a.R a.us.length a.c, .slice a.P a.rs.length a.pc] 35 (0, 0))) := Lib.hid (by rw [hW0]; have := heap_new (w.alloc (.cells #[.string opv, .slice kA kl kc, .slice vA V.length vc, .int .i64 N] 27)) (.cells #[.bool a.is, .int .i64 a.n, .slice a.R a.us.length a.c, .slice a.P a.rs.length a.pc] 35); simpa using this)
  clear hW0
  go_cut [10, 11] from 12 to 49 (fun s10 s11 wx => ∃ (k : Nat) (b : Bool), s10 = .int .i64 (k : Int) ∧ s11 = .bool b ∧ Place dsc n st K k b ∧ Below W0.heap.size W0 wx)
  case first =>
    by_cases hK0 : 0 < kl
    · have hd0 : decide (0 < kl) = true := decide_eq_true hK0
      rw [hd0]
      go_wp2
      go_loopw [10] (fun i wr => ∃ k : Nat, k ≤ len ∧ i = .int .i64 (k : Int) ∧ Below W0.heap.size W0 wr ∧ ∀ (j : Nat) (r : PairV), j < k → ps[j]? = some r → ∃ c, Told dsc n K r c ∧ c < 0) (fun i _ => len - (intOf i).toNat)
      case atStart => exact ⟨0, by omega, rfl, Below.refl _ _, fun j r hj => by omega⟩
      case round =>
        obtain ⟨k, hk, rfl, hb, hall⟩ := hrel
        have HALL := Lib.hid hall
        have HB := Lib.hid hb
        have HBW := Lib.hid (up_below' HB0.out hb)
        have d1 := cell_of_heap (heap_below HD0.out hb) 1
        clear hall hb
        by_cases hlt : k < len
        · obtain ⟨r, hr⟩ : ∃ r, ps[k]? = some r := ⟨_, List.getElem?_eq_getElem (by rw [← HN.out]; exact hlt)⟩
          obtain ⟨⟨ad, rfl, hbl, h0, h1⟩, _⟩ := (HH.out.pairs HBW.out) k r hr
          have HR := Lib.hid hr
          have HC := Lib.hid (fun (w' : World) (hb : Below _ _ w') => by have := HH.out.cmp (by show 0 < K.length; rw [← HKL.out]; exact hK0) (List.mem_of_getElem? hr) (up_below' HBW.out hb); rw [← HKL.out] at this; exact this)
          have hd : decide ((k : Int) < (len : Int)) = true := decide_eq_true (by omega)
          clear hr h1
          go_wp2
          go_still_tail 13, (by kernel_rfl)
          change wpList _ _ _ _ _ (_ : World).drew
          go_wp2_with (go_at_call 16
                       refine (HC.out _ (Below.refl _ _).drew).mono ?_
                       rintro e w3 ⟨cc, rfl, ht, hb3⟩
                       have HT := Lib.hid ht
                       have HB3 : Hid (Below wr.heap.size wr w3) := Lib.hid (up_below' (Below.refl _ _).drew hb3)
                       have hbl3 : (ad.add (k * 2)).block < w3.heap.size := Nat.lt_of_lt_of_le hbl HB3.out.size
                       have g0 := (HB3.out.cell hbl).trans h0
                       have d3 := (HB3.out.cell (p := ⟨w.heap.size, 1, none⟩) (lt_of_heap (heap_below HD0.out HB.out))).trans d1
                       have HC3 := Lib.hid (fun (w' : World) (hb : Below w3.heap.size w3 w') => HC.out w' (up_below' HB3.out hb))
                       clear hb3 ht)
          · refine ⟨⟨k + 1, by omega, by push_cast; rfl, up_below' HB.out HB3.out, fun j z hj hz => ?_⟩, by simp [intOf]; omega⟩
            rcases Nat.lt_or_ge j k with h' | h'
            · exact HALL.out j z h' hz
            · obtain rfl : j = k := by omega
              obtain rfl : z = r := Option.some.inj (hz.symm.trans HR.out)
              exact ⟨cc, HT.out, by first | assumption | omega⟩
          · have hcc : 0 ≤ cc := by omega
            go_still_tail 13, (by kernel_rfl)
            change wpList _ _ _ _ _ (_ : World).drew
            go_wp2_with (go_at_call 16
                         refine (HC3.out _ (Below.refl _ _).drew).mono ?_
                         rintro e w4 ⟨c4, rfl, ht4, hb4⟩
                         have HT4 := Lib.hid ht4
                         have HB4 : Hid (Below w3.heap.size w3 w4) := Lib.hid (up_below' (Below.refl _ _).drew hb4)
                         clear hb4 ht4)
            go_meet
            exact ⟨k, c4 == 0, rfl, rfl, Place.here HH.out.now HR.out HALL.out HT.out hcc HT4.out, up_below' (up_below' HB.out HB3.out) HB4.out⟩
        · have hke : k = len := by omega
          subst hke
          have hd : decide ((k : Int) < (k : Int)) = false := decide_eq_false (by omega)
          go_wp2
          go_quiet (fail)
          go_wp2
          go_quiet (fail)
          go_wp2
          go_meet
          exact ⟨k, false, rfl, rfl, Place.end_ HH.out.now (by rw [HN.out]) HALL.out, (by first | exact HB.out | exact below_drewN (below_drewN HB.out _) _ | exact HB.out.drew.drew)⟩
    · have hK1 : kl = 0 := by omega
      subst hK1
      go_wp2
      go_meet
      exact ⟨0, false, rfl, rfl, Place.none HH.out.n1 HKL.out.symm, Below.refl _ _⟩
  case rest =>
    obtain ⟨k, b, rfl, rfl, hpl, hb⟩ := hcut
    have HPL := Lib.hid hpl
    have HBC := Lib.hid (up_below' HB0.out hb)
    have hdh := heap_below HD0.out hb
    have hah := heap_below HA0.out hb
    have ld := lt_of_heap hdh
    have la := lt_of_heap hah
    have d0 := cell_of_heap hdh 0
    have d1 := cell_of_heap hdh 1
    have d2 := cell_of_heap hdh 2
    have d3 := cell_of_heap hdh 3
    have a0 := cell_of_heap hah 0
    have a1 := cell_of_heap hah 1
    have a2 := cell_of_heap hah 2
    have a3 := cell_of_heap hah 3
    have HROW : Hid (RowX wc w1.heap.size 66 2 (.slice A len c) len (flat PairV.cells ps)) := Lib.hid (by have := HH.out.row.below HBC.out; rw [← HN.out] at this; exact this)
    have HB1 : Hid (Below w1.heap.size w1 wc) := Lib.hid (up_below' HH.out.below HBC.out)
    have hopv := HOP.out
    subst hopv
    have HDC := Lib.hid hdh
    clear hpl hb hdh hah HOP
    simp only [List.getElem?_toArray, List.getElem?_cons_zero, List.getElem?_cons_succ] at d0 d1 d2 d3 a0 a1 a2 a3
    have hkp : k = placeP dsc K st ∧ b = thereP dsc K st := HPL.out.2 (HH.out.fit.key (by simp))
    obtain ⟨hk, hbt⟩ := hkp
    have his := HH.out.says.is (thereP dsc K st) rfl
    rw [← hbt] at his
    rw [his] at a0
    have hne : (b != b) = false := by simp
    obtain ⟨nn, rfl⟩ : ∃ nn : Nat, N = nn := ⟨N.toNat, by omega⟩
    have hcap : len ≤ c := HROW.out.capLe
    have hkl : k ≤ len := by rw [HN.out, HH.out.now.len]; exact HPL.out.1
    obtain ⟨mm, hmm⟩ : ∃ mm : Nat, mm = min (k + nn) len := ⟨_, rfl⟩
    have hml : mm ≤ len := by omega
    have hkm : k ≤ mm := by omega
    obtain ⟨kn, hkn⟩ : ∃ kn : Nat, kn = k + nn := ⟨_, rfl⟩
    have hs1 : (k : Int) + (nn : Int) = (kn : Int) := by omega
    have hs2 : IntKind.i64.wrap (kn : Int) = (kn : Int) := IntWalk.i64_in _ (by omega)
    have HS : Hid (∀ (w' : World), Below wc.heap.size wc w' → Calls Tryd.prog 23 #[.slice a.P a.rs.length a.pc, .slice (cutA A c k) (mm - k) (c - k)] w' fun e w'' => e = .returned (.bool true) ∧ Below w'.heap.size w' w'') := Lib.hid (fun w' hb => by
      have hout := HH.out.says.ps ((st.drop (placeP dsc K st)).take nn) (by show (if 0 ≤ (nn : Int) then some ((st.drop (placeP dsc K st)).take (nn : Int).toNat) else if placeP dsc K st < st.length then some ((st.take (placeP dsc K st + 1)).reverse.take (-(nn : Int)).toNat) else none) = _; rw [if_pos (by omega)]; rfl)
      have e1 : ((ps.drop k).take (mm - k)).map PairV.pr = (st.drop (placeP dsc K st)).take nn := by
        rw [List.map_take, List.map_drop, HH.out.now.prs, ← hk, hmm, HN.out, HH.out.now.len]
        rw [List.take_eq_take_iff, List.length_drop]
        omega
      have hs := same_of_out HH.out.now HH.out.n3 (qs := (ps.drop k).take (mm - k)) (by rw [e1]; exact hout) (fun r hr => List.mem_of_mem_drop (List.mem_of_mem_take hr))
      have hl : ((ps.drop k).take (mm - k)).length = mm - k := by rw [List.length_take, List.length_drop, ← HN.out]; omega
      have := samePairs_true a.rs ((ps.drop k).take (mm - k)) a.P (cutA A c k) a.pc (c - k) w' ((HH.out.rs.below HB1.out).below hb) (((HH.out.pairs HBC.out).below hb).cut (by rw [← HN.out]; exact hcap) (by rw [← HN.out]; exact hkl) (mm - k)) hs (by rw [hs.1, hl]; omega)
      rw [hl] at this
      exact this)
    have hcut := fun W => run_part (P := Tryd.prog) Tryd.underlying31 spair A len c k mm hkm (by omega) W
    have HMM := Lib.hid hmm
    have hN0 : (0 : Int) ≤ (nn : Int) := by omega
    have HKN := Lib.hid hkn
    clear a1 a2 d1 d2 hk hbt his
    rcases Nat.lt_or_ge len kn with hlt | hge
    · obtain rfl : mm = len := by omega
      have hif : (mm : Int) < (kn : Int) := by omega
      clear hmm hkn
      go_wp2
      go_region_law
        (first
          | (go_simp; go_at_call 23
             refine (HS.out _ (by first | exact Below.refl _ _ | exact (Below.refl _ _).drew)).mono ?_
             rintro e w4 ⟨rfl, hb4'⟩
             have HB4 : Hid (Below wc.heap.size wc w4) := Lib.hid (by first | exact hb4' | exact ⟨hb4'.os, hb4'.tape, hb4'.output, hb4'.size, hb4'.block⟩)
             clear hb4'))
      all_goals
        go_wp2
        go_ret2
        exact ⟨_, c, ps, (by first | (rw [← HN.out]; rfl) | rw [← HN.out]), by rw [← HN.out]; exact HROW.out.below HB4.out, HH.out.now.same rfl, up_below' HB1.out HB4.out⟩
    · obtain rfl : mm = kn := by omega
      have hif : ¬ (len : Int) < (mm : Int) := by omega
      have hif2 : ((len : Int) < (mm : Int)) = False := eq_false hif
      clear hmm hkn
      go_wp2
      go_region_law
        (first
          | (go_simp; go_at_call 23
             refine (HS.out _ (by first | exact Below.refl _ _ | exact (Below.refl _ _).drew)).mono ?_
             rintro e w4 ⟨rfl, hb4'⟩
             have HB4 : Hid (Below wc.heap.size wc w4) := Lib.hid (by first | exact hb4' | exact ⟨hb4'.os, hb4'.tape, hb4'.output, hb4'.size, hb4'.block⟩)
             clear hb4'))
      all_goals
        go_wp2
        go_ret2
        exact ⟨_, c, ps, (by first | (rw [← HN.out]; rfl) | rw [← HN.out]), by rw [← HN.out]; exact HROW.out.below HB4.out, HH.out.now.same rfl, up_below' HB1.out HB4.out⟩

end Go.Proofs.YtffgkocokkhahaaDoor
