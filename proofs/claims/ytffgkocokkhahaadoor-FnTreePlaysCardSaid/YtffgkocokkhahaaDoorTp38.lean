/-
  laws.treeDeed: ends. PRINTED BY wip/tpl/gen_yrd.py.
-/
import Derived.Test.YtffgkocokkhahaaDoorTp36
import Derived.Deep.CutRange
import Derived.Deep.RegionLaw
import Derived.BigQuiet
import Derived.StillTailTactics

/- laws.treeDeed: ends. PRINTED BY wip/tpl/gen_yrd.py. -/
namespace Go.Proofs.YtffgkocokkhahaaDoor
open Go.RowKit

set_option maxRecDepth 100000 in
set_option maxHeartbeats 3200000 in
theorem ld_ends {dsc : Bool} {n : Nat} {st : List PR} {ps : List PairV} {A : Option Addr} {c : Nat} {K V : List VV} {N : Int} {kA : Option Addr} {kc : Nat} {vA : Option Addr} {vc : Nat} {a : TAV} {w1 w : World} (h : DeedIn dsc n st ps A c ⟨.ends, K, V, N⟩ kA kc vA vc a w1 w) :
    Calls Tryd.prog 10 #[.bool dsc, .slice A ps.length c, .agg #[.string ⟨#[101, 110, 100, 115]⟩, .slice kA K.length kc, .slice vA V.length vc, .int .i64 N], .agg #[.bool a.is, .int .i64 a.n, .slice a.R a.us.length a.c, .slice a.P a.rs.length a.pc]] w (LDeed dsc n st ⟨.ends, K, V, N⟩ w1) := by
  unfold LDeed
  have hlen9 := h.len
  have hfN0 : -1000 ≤ N := h.fit.lo
  have hfN1 : N ≤ 1000 := h.fit.hi
  have hbs := h.below.size
  have HH := Lib.hid h
  obtain ⟨len, hlen⟩ : ∃ len, len = ps.length := ⟨_, rfl⟩
  obtain ⟨kl, hkl⟩ : ∃ kl, kl = K.length := ⟨_, rfl⟩
  obtain ⟨opv, hopv⟩ : ∃ opv : ByteArray, opv = ⟨#[101, 110, 100, 115]⟩ := ⟨_, rfl⟩
  have HN := Lib.hid hlen
  have HKL := Lib.hid hkl
  have HOP := Lib.hid hopv
  rw [← hlen, ← hkl, ← hopv]
  rw [← hlen] at hlen9
  clear h hlen hkl hopv
  go_enter Tryd.func10, Tryd.ntmps10
  go_upto_if 15 with fail
  obtain ⟨W0, hW0⟩ : ∃ W0, W0 = (w.alloc (.cells #[.string opv, .slice kA kl kc, .slice vA V.length vc, .int .i64 N] 27)).alloc (.cells #[.bool a.is, .int .i64 a.n, .slice a.R a.us.length a.c, .slice a.P a.rs.length a.pc] 35) := ⟨_, rfl⟩
  rw [← hW0]
  have HB0 : Hid (Below w.heap.size w W0) := Lib.hid (by rw [hW0]; exact below_al2' w _ _)
  have HD0 : Hid (W0.heap[w.heap.size]? = some (.cells #[.string opv, .slice kA kl kc, .slice vA V.length vc, .int .i64 N] 27 (0, 0))) := Lib.hid (by rw [hW0]; exact (heap_alloc_ne _ _ _ (by simp)).trans (heap_new w _))
  have HA0 : Hid (W0.heap[w.heap.size + 1]? = some (.cells #[.bool a.is, .int .i64 a.n, .slice a.R a.us.length a.c, .slice a.P a.rs.length a.pc] 35 (0, 0))) := Lib.hid (by rw [hW0]; have := heap_new (w.alloc (.cells #[.string opv, .slice kA kl kc, .slice vA V.length vc, .int .i64 N] 27)) (.cells #[.bool a.is, .int .i64 a.n, .slice a.R a.us.length a.c, .slice a.P a.rs.length a.pc] 35); simpa using this)
  clear hW0
  go_cut [10, 11] from 12 to 49 (fun s10 s11 wx => ∃ (k : Nat) (b : Bool), s10 = .int .i64 (k : Int) ∧ s11 = .bool b ∧ Place dsc n st K k b ∧ Below W0.heap.size W0 wx)
  case first =>
    by_cases hK0 : 0 < kl
    · have hd0 : decide (0 < kl) = true := decide_eq_true hK0
      rw [hd0]
      go_wp2
      go_loopw [10] (fun i wr => ∃ k : Nat, k ≤ len ∧ i = .int .i64 (k : Int) ∧ Below W0.heap.size W0 wr ∧ ∀ (j : Nat) (r : PairV), j < k → ps[j]? = some r → ∃ c, Told dsc n K r c ∧ c < 0) (fun i _ => len - (intOf i).toNat)
      case atStart => exact ⟨0, by omega, rfl, Below.refl _ _, fun j r hj => by omega⟩
      case round =>
        obtain ⟨k, hk, rfl, hb, hall⟩ := hrel
        have HALL := Lib.hid hall
        have HB := Lib.hid hb
        have HBW := Lib.hid (up_below' HB0.out hb)
        have d1 := cell_of_heap (heap_below HD0.out hb) 1
        clear hall hb
        by_cases hlt : k < len
        · obtain ⟨r, hr⟩ : ∃ r, ps[k]? = some r := ⟨_, List.getElem?_eq_getElem (by rw [← HN.out]; exact hlt)⟩
          obtain ⟨⟨ad, rfl, hbl, h0, h1⟩, _⟩ := (HH.out.pairs HBW.out) k r hr
          have HR := Lib.hid hr
          have HC := Lib.hid (fun (w' : World) (hb : Below _ _ w') => by have := HH.out.cmp (by show 0 < K.length; rw [← HKL.out]; exact hK0) (List.mem_of_getElem? hr) (up_below' HBW.out hb); rw [← HKL.out] at this; exact this)
          have hd : decide ((k : Int) < (len : Int)) = true := decide_eq_true (by omega)
          clear hr h1
          go_wp2
          go_still_tail 13, (by kernel_rfl)
          change wpList _ _ _ _ _ (_ : World).drew
          go_wp2_with (go_at_call 16
                       refine (HC.out _ (Below.refl _ _).drew).mono ?_
                       rintro e w3 ⟨cc, rfl, ht, hb3⟩
                       have HT := Lib.hid ht
                       have HB3 : Hid (Below wr.heap.size wr w3) := Lib.hid (up_below' (Below.refl _ _).drew hb3)
                       have hbl3 : (ad.add (k * 2)).block < w3.heap.size := Nat.lt_of_lt_of_le hbl HB3.out.size
                       have g0 := (HB3.out.cell hbl).trans h0
                       have d3 := (HB3.out.cell (p := ⟨w.heap.size, 1, none⟩) (lt_of_heap (heap_below HD0.out HB.out))).trans d1
                       have HC3 := Lib.hid (fun (w' : World) (hb : Below w3.heap.size w3 w') => HC.out w' (up_below' HB3.out hb))
                       clear hb3 ht)
          · refine ⟨⟨k + 1, by omega, by push_cast; rfl, up_below' HB.out HB3.out, fun j z hj hz => ?_⟩, by simp [intOf]; omega⟩
            rcases Nat.lt_or_ge j k with h' | h'
            · exact HALL.out j z h' hz
            · obtain rfl : j = k := by omega
              obtain rfl : z = r := Option.some.inj (hz.symm.trans HR.out)
              exact ⟨cc, HT.out, by first | assumption | omega⟩
          · have hcc : 0 ≤ cc := by omega
            go_still_tail 13, (by kernel_rfl)
            change wpList _ _ _ _ _ (_ : World).drew
            go_wp2_with (go_at_call 16
                         refine (HC3.out _ (Below.refl _ _).drew).mono ?_
                         rintro e w4 ⟨c4, rfl, ht4, hb4⟩
                         have HT4 := Lib.hid ht4
                         have HB4 : Hid (Below w3.heap.size w3 w4) := Lib.hid (up_below' (Below.refl _ _).drew hb4)
                         clear hb4 ht4)
            go_meet
            exact ⟨k, c4 == 0, rfl, rfl, Place.here HH.out.now HR.out HALL.out HT.out hcc HT4.out, up_below' (up_below' HB.out HB3.out) HB4.out⟩
        · have hke : k = len := by omega
          subst hke
          have hd : decide ((k : Int) < (k : Int)) = false := decide_eq_false (by omega)
          go_wp2
          go_quiet (fail)
          go_wp2
          go_quiet (fail)
          go_wp2
          go_meet
          exact ⟨k, false, rfl, rfl, Place.end_ HH.out.now (by rw [HN.out]) HALL.out, (by first | exact HB.out | exact below_drewN (below_drewN HB.out _) _ | exact HB.out.drew.drew)⟩
    · have hK1 : kl = 0 := by omega
      subst hK1
      go_wp2
      go_meet
      exact ⟨0, false, rfl, rfl, Place.none HH.out.n1 HKL.out.symm, Below.refl _ _⟩
  case rest =>
    obtain ⟨k, b, rfl, rfl, hpl, hb⟩ := hcut
    have HPL := Lib.hid hpl
    have HBC := Lib.hid (up_below' HB0.out hb)
    have hdh := heap_below HD0.out hb
    have hah := heap_below HA0.out hb
    have ld := lt_of_heap hdh
    have la := lt_of_heap hah
    have d0 := cell_of_heap hdh 0
    have d1 := cell_of_heap hdh 1
    have d2 := cell_of_heap hdh 2
    have d3 := cell_of_heap hdh 3
    have a0 := cell_of_heap hah 0
    have a1 := cell_of_heap hah 1
    have a2 := cell_of_heap hah 2
    have a3 := cell_of_heap hah 3
    have HROW : Hid (RowX wc w1.heap.size 66 2 (.slice A len c) len (flat PairV.cells ps)) := Lib.hid (by have := HH.out.row.below HBC.out; rw [← HN.out] at this; exact this)
    have HB1 : Hid (Below w1.heap.size w1 wc) := Lib.hid (up_below' HH.out.below HBC.out)
    have hopv := HOP.out
    subst hopv
    have HDC := Lib.hid hdh
    clear hpl hb hdh hah HOP
    simp only [List.getElem?_toArray, List.getElem?_cons_zero, List.getElem?_cons_succ] at d0 d1 d2 d3 a0 a1 a2 a3
    by_cases h0 : len = 0
    · subst h0
      go_wp2
      go_ret2
      exact ⟨A, c, ps, (by first | (rw [← HN.out]; rfl) | rw [← HN.out]), by rw [← HN.out]; exact (by first | exact HROW.out | exact HROW.out.below (below_drewN (Below.refl _ _) _) | exact HROW.out.below (Below.refl _ _).drew), HH.out.now.same rfl, (by first | exact HB1.out | exact below_drewN HB1.out _ | exact HB1.out.drew)⟩
    · have hpo : 0 < len := by omega
      obtain ⟨q, hq⟩ : ∃ q : Nat, q = len - 1 := ⟨_, rfl⟩
      have hql : q < len := by omega
      obtain ⟨r0, hr0⟩ : ∃ r, ps[0]? = some r := ⟨_, List.getElem?_eq_getElem (by rw [← HN.out]; exact hpo)⟩
      obtain ⟨r1, hr1⟩ : ∃ r, ps[q]? = some r := ⟨_, List.getElem?_eq_getElem (by rw [← HN.out]; exact hql)⟩
      have hst0 := HH.out.now.get hr0
      have hst1 := HH.out.now.get hr1
      have hlast : st.getLast? = some ⟨r1.k, r1.v⟩ := by rw [List.getLast?_eq_getElem?, ← HH.out.now.len, ← HN.out, ← hq]; exact hst1
      have hhead : st.head? = some ⟨r0.k, r0.v⟩ := by rw [List.head?_eq_getElem?]; exact hst0
      have hout := HH.out.says.ps [⟨r0.k, r0.v⟩, ⟨r1.k, r1.v⟩] (by show (match st.head?, st.getLast? with | some a, some b => some [a, b] | _, _ => none) = _; rw [hlast, hhead])
      have hsame : SamePs a.rs [r0, r1] := same_of_out HH.out.now HH.out.n3 (qs := [r0, r1]) hout (fun r hr => by simp at hr; rcases hr with rfl | rfl; exact List.mem_of_getElem? hr0; exact List.mem_of_getElem? hr1)
      have hpa := HH.out.pairs HBC.out
      have hrs := HH.out.rs.below HB1.out
      obtain ⟨g, cap, cur, hv, hge, hgh, hnc, hcm, hsz, htk⟩ := HROW.out.open_ hpo
      injection hv with hv1 _ hv2
      subst hv1
      subst hv2
      obtain ⟨⟨ad0, he0, hb0, z0, z1⟩, hv0⟩ := hpa 0 r0 hr0
      obtain ⟨⟨ad1, he1, hb1, y0, y1⟩, hv1⟩ := hpa q r1 hr1
      obtain rfl := Option.some.inj he0
      obtain rfl := Option.some.inj he1
      simp only [add_mk, Nat.zero_mul, Nat.zero_add, Nat.add_zero] at z0 z1 y0 y1
      have hw1 : (len : Int) - 1 = (q : Int) := by omega
      have hw2 : IntKind.i64.wrap (q : Int) = (q : Int) := IntWalk.i64_in _ (by omega)
      have hle0 : ((len : Int) == 0) = false := by simp; omega
      have HS : Hid (∀ (w' : World) (b : Nat), Below wc.heap.size wc w' → w'.heap[b]? = some (.cells #[.slice r0.kA r0.k.length r0.kc, .slice r0.vA r0.v.length r0.vc, .slice r1.kA r1.k.length r1.kc, .slice r1.vA r1.v.length r1.vc] 66 (0, 0)) → Calls Tryd.prog 23 #[.slice a.P a.rs.length a.pc, .slice (some ⟨b, 0, none⟩) 2 2] w' fun e w'' => e = .returned (.bool true) ∧ Below w'.heap.size w' w'') := Lib.hid (fun w' b hb hh => by
        refine samePairs_true a.rs [r0, r1] a.P (some ⟨b, 0, none⟩) a.pc 2 w' (hrs.below hb) (pairs_reads (n := 2) ⟨rfl, fun _ => ⟨_, rfl, lt_of_heap hh, fun j u hu => World.news_of_block hh j u hu⟩⟩ rfl (fun r hr => ?_)) hsame (by have := hout.1; simp at this; omega)
        simp at hr
        rcases hr with rfl | rfl
        · exact ⟨hv0.1.below hb, hv0.2.below hb⟩
        · exact ⟨hv1.1.below hb, hv1.2.below hb⟩)
      clear hpa hrs hgh htk hsz hcm hr0 hr1 hst0 hst1 hlast hhead hout hsame hv0 hv1 he0 he1 hq a0 a1 a2 d1 d2 d3
      go_wp2
      go_region_law
        (first
          | (go_simp; go_at_call 23
             refine (HS.out _ _ (by exact ((Below.refl wc.heap.size wc).drew).alloc (Nat.le_refl _) _) (by exact heap_new wc.drew _)).mono ?_
             rintro e w4 ⟨rfl, hb4'⟩
             have HB4 : Hid (Below wc.heap.size wc w4) := Lib.hid (up_below' (((Below.refl wc.heap.size wc).drew).alloc (Nat.le_refl _) _) hb4')
             clear hb4'))
      all_goals
        go_wp2
        go_ret2
        exact ⟨_, c, ps, (by first | (rw [← HN.out]; rfl) | rw [← HN.out]), by rw [← HN.out]; exact HROW.out.below HB4.out, HH.out.now.same rfl, up_below' HB1.out HB4.out⟩

end Go.Proofs.YtffgkocokkhahaaDoor
