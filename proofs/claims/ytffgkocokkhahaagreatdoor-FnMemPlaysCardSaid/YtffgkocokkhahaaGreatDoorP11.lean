/-
  laws.deed: "update". || laws.deed: "delete".
-/
import Derived.Test.YtffgkocokkhahaaGreatDoorP10
import Derived.BigQuiet
import Derived.Deep.RegionLaw

/- laws.deed: "update". -/
namespace Go.Proofs.YtffgkocokkhahaaGreatDoor
open Go.RowKit Go.Maps

set_option maxRecDepth 100000 in
set_option maxHeartbeats 6400000 in
theorem tried_update1 {w0 w : World} {B t k b : Nat} {dv : List MDV} {dm : List (MD (List VV))} {N : NMap} {o : Nat × NMap} {os : List (Nat × NMap)} {dsv ov : Value} {a : Addr} (hp : TrP w0 dv dm N (o :: os) k) (hm : TrM B w t k dv b N (o :: os) dsv ov) (hb : Below B w0 w) (hB : B = w0.heap.size) (hBw : B ≤ w.heap.size) (hE : ErrsOk w0 a) (hk : k ≤ 85) {dh : Int} {A : Option Addr} {c : Nat} {us : List VV} (hl : LAt w0 A us) (h0 : 0 ≤ dh) (hr : MRow us) :
    Calls Tryz.prog 8 #[.pointer (some ⟨t, 0, none⟩), .agg #[.string ⟨#[117, 112, 100, 97, 116, 101]⟩, .int .i64 dh, .slice A us.length c]] w (DeedP B w0 t k) := by
  obtain ⟨i0, hi0, hz0, hz1, hz2⟩ := info_parts info_mdeed
  obtain ⟨Ad, cd, rfl⟩ := own_form hm.deeds
  obtain ⟨Ao, co, rfl⟩ := own_form hm.opens
  rw [hp.len1] at hm
  obtain ⟨nu, hnu⟩ : ∃ nu, nu = us.length := ⟨_, rfl⟩
  obtain ⟨q, hq⟩ : ∃ q, q = ((o :: os) : List (Nat × NMap)).length := ⟨_, rfl⟩
  rw [← hq] at hm
  obtain ⟨k1, hk1⟩ : ∃ k1, k1 = k + 1 := ⟨_, rfl⟩
  have hx1 : (k1 : Int) - 1 = (k : Int) := i64_pred2 hk1
  have hx2 : IntKind.i64.wrap ((k1 : Int) - 1) = (k : Int) := i64_pred3 hk1 (by omega)
  have hx3 : k < k1 := by omega
  have hql : q ≤ k := by rw [hq]; exact hp.opens
  have hqe : ((q : Int) == 0) = false := by
    have h0 : (q : Int) ≠ 0 := by rw [hq]; exact Int.ofNat_ne_zero.2 (Nat.succ_ne_zero _)
    exact beq_eq_false_iff_ne.2 h0
  have HK1 := Lib.hid hk1
  have HQ := Lib.hid hq
  have HP := Lib.hid hp
  have HM := Lib.hid hm
  have HB := Lib.hid hb
  have HBW := Lib.hid hBw
  have HBE := Lib.hid hB
  have HE := Lib.hid hE
  have HL := Lib.hid hl
  have HNU := Lib.hid hnu
  rw [← hnu]
  have HDH := Lib.hid h0
  have HR := Lib.hid hr
  clear hr
  clear h0
  have HOK : Hid ((runM [] c0M dm).2 ≠ []) := Lib.hid (by obtain ⟨s, ss, e, _⟩ := hp.links; rw [e]; simp)
  have HHD : Hid (∀ w', Below w.heap.size w w' → Calls Tryz.prog 9 #[.map (some b)] w' (HandlesP k N w')) := Lib.hid (fun w' hw => handles_any (hm.now.chg (Chg.of_below (S := fun _ => False) hw) id) (by omega) (fun x r hx => by have := hp.bound hx; omega))
  have c0 : w.cell? ⟨t, 0, none⟩ = some (.slice Ad k cd) := cell_of_heap hm.cell 0
  have c1 : w.cell? ⟨t, 1, none⟩ = some (.map (some b)) := cell_of_heap hm.cell 1
  have c2 : w.cell? ⟨t, 2, none⟩ = some (.slice Ao q co) := cell_of_heap hm.cell 2
  have ltt : t < w.heap.size := lt_of_heap hm.cell
  clear hp hm hb hB hBw hE hl hnu hq hk1
  go_enter Tryz.func8, Tryz.ntmps8
  go_wp2_with (go_at_call 9
               refine (HHD.out _ ((Below.refl _ _).alloc (Nat.le_refl _) _)).mono ?_
               rintro y w1 ⟨A1, n1, cc1, xs, rfl, hn1, hown1, hall1, hk1x, hb1⟩
               have HO1 := Lib.hid hown1
               have HA1 := Lib.hid hall1
               have HKX := Lib.hid hk1x
               have HB1 : Hid (Below w.heap.size w w1) := Lib.hid (up_below' ((Below.refl _ w).alloc (Nat.le_refl _) _) hb1)
               have HP1 : Hid (w1.heap[w.heap.size]? = some (.cells #[.string ⟨#[117, 112, 100, 97, 116, 101]⟩, .int .i64 dh, .slice A nu c] 34 (0, 0))) := Lib.hid (heap_below (heap_new w (.cells #[.string ⟨#[117, 112, 100, 97, 116, 101]⟩, .int .i64 dh, .slice A nu c] 34)) hb1)
               have HT1 : Hid (w1.heap[t]? = some (.cells #[.slice Ad k cd, .map (some b), .slice Ao q co] 30 (0, 0))) := Lib.hid (heap_below HM.out.cell HB1.out)
               have HM1 := Lib.hid (HM.out.below HB1.out)
               have hs1 : w.heap.size < w1.heap.size := lt_of_heap HP1.out
               have t0 := cell_of_heap HT1.out 0
               have t1 := cell_of_heap HT1.out 1
               have t2 := cell_of_heap HT1.out 2
               have tf := free_of_heap HT1.out 0
               have p0 := cell_of_heap HP1.out 0
               have p1 := cell_of_heap HP1.out 1
               have p2 := cell_of_heap HP1.out 2
               clear hall1 hk1x hb1 c0 c1 c2
               rcases rem_cases (xs := xs) HDH.out hn1 hown1 with hz | ⟨j, hx, gx, cx, hz, hj, hrm, hA1, hxm, hxc⟩
               all_goals try (subst hA1; have HXM := Lib.hid hxm; have pf := free_of_heap HP1.out 1; clear hxm)
               all_goals clear hn1 hown1)
  · go_ret
    exact Tr.stay HP.out HM.out HB.out HBW.out HB1.out
  · obtain ⟨wq, hwq⟩ : ∃ wq, wq = w1.setCell ⟨w.heap.size, 1, none⟩ (.int .i64 hx) := ⟨_, rfl⟩
    rw [← hwq]
    have hkq : Chg (fun z => z = w.heap.size) w1 wq := hwq ▸ chg_m w.heap.size 1 _
    have HKQ := Lib.hid hkq
    have hsq : w1.heap.size ≤ wq.heap.size := hkq.size
    have HBq : Hid (Below w.heap.size w wq) := Lib.hid (HB1.out.trans (hkq.below (Nat.le_of_lt hs1) (fun z hz => by omega)))
    have HMq := Lib.hid (HM.out.below HBq.out)
    have HTq : Hid (wq.heap[t]? = some (.cells #[.slice Ad k cd, .map (some b), .slice Ao q co] 30 (0, 0))) := Lib.hid (heap_below HM.out.cell HBq.out)
    have HPX : Hid (wq.heap[w.heap.size]? = some (.cells #[.string ⟨#[117, 112, 100, 97, 116, 101]⟩, .int .i64 hx, .slice A nu c] 34 (0, 0))) := Lib.hid (by rw [hwq, heap_setCell_at, HP1.out]; rfl)
    have hs1q : w.heap.size < wq.heap.size := lt_of_heap HPX.out
    clear t0 t1 t2 tf p0 p1 p2 hwq hkq hrm hxc hz hj pf hsq hs1
    have t0 := cell_of_heap HTq.out 0
    have t1 := cell_of_heap HTq.out 1
    have t2 := cell_of_heap HTq.out 2
    have tf := free_of_heap HTq.out 0
    have p0 := cell_of_heap HPX.out 0
    have p1 := cell_of_heap HPX.out 1
    have p2 := cell_of_heap HPX.out 2
    obtain ⟨rr, hrr⟩ := HA1.out hx HXM.out
    have HRR := Lib.hid hrr
    have HLV := Lib.hid ((HP.out.link hx).1 rr hrr)
    have HHB : Hid (hx ≤ 100000) := Lib.hid (by have := HP.out.bound hrr; omega)
    clear hrr
    have HDS : Hid (MDV.cells (⟨updateS, (hx : Int), A, c, us⟩ : MDV) = [.string ⟨#[117, 112, 100, 97, 116, 101]⟩, .int .i64 hx, .slice A nu c]) := Lib.hid (by rw [HNU.out]; rfl)
    have hxk : k + 1 ≤ maxLen := Nat.le_trans (Nat.add_le_add_right hk 1) (by decide)
    have hxb : (k + 1) * 48 ≤ 140737488355328 := Nat.le_trans (Nat.mul_le_mul_right 48 (Nat.add_le_add_right hk 1)) (by decide)
    have hltt : t < wq.heap.size := lt_of_heap HTq.out
    have HBB : Hid (B ≤ (wq.alloc (.cells #[.string ⟨#[117, 112, 100, 97, 116, 101]⟩, .int .i64 hx, .slice A nu c] 34)).heap.size) := Lib.hid (by have := HBW.out; simp; omega)
    have HDO : Hid (wq.ownsRow B 34 3 (.slice Ad k cd) k (flat MDV.cells dv)) := Lib.hid (by have := HMq.out.deeds; rw [HP.out.len1] at this; exact this)
    go_region_law
      ((refine step_append_lies _ (by rfl) _ _ _ (by rfl) B 34 i0 _ 3 48 Tryz.underlying22 hi0 hz0 hz1 hz2 rfl (by decide) (.slice Ad k cd) k (flat MDV.cells dv) (by rfl) ((HDO.out.alloc _).drew)
          ⟨wq.heap.size, 0, none⟩ 1 1 [.string ⟨#[117, 112, 100, 97, 116, 101]⟩, .int .i64 hx, .slice A nu c] (by rfl) (by rfl) (World.news_of_block (cs := #[.string ⟨#[117, 112, 100, 97, 116, 101]⟩, .int .i64 hx, .slice A nu c]) (t := 34) (fr := (0, 0)) (heap_alloc_new wq _)) (by simp [Value.oneCell'])
          (by decide) hxk hxb HBB.out (wq.heap.size + 1) (by simp) ?_; intro gg cap w2 hown2 hgrow2 hat2 hlt2
        have HC2 : Hid (Chg (fun z => (Value.slice Ad k cd).ownBlock = some z) wq w2) := Lib.hid ((((Chg.refl _ wq).alloc _).drew).trans ((Chg.of_grown hgrow2).mono (fun z _ hz => hz.symm)))
        have E2 : Hid (w2.heap[t]? = wq.heap[t]?) := Lib.hid (HC2.out.block t hltt (own_ne HDO.out HTq.out (by decide)))
        have t0b : w2.cell? ⟨t, 0, none⟩ = some (.slice Ad k cd) := (World.cell?_of_block E2.out).trans t0
        have tfb : w2.frozen? ⟨t, 0, none⟩ = false := (World.frozen?_of_block E2.out).trans tf
        have HO2 := Lib.hid hown2
        have HAT2 := Lib.hid hat2
        clear hown2 hgrow2 hat2))
    all_goals
      obtain ⟨W3, hW3⟩ : ∃ W3, W3 = w2.setCell ⟨t, 0, none⟩ (.slice (some ⟨gg, 0, none⟩) (k + 1) cap) := ⟨_, rfl⟩
      rw [← hW3]
      have hW3' : W3 = w2.setCell ⟨t, 0, none⟩ (.slice (some ⟨gg, 0, none⟩) k1 cap) := by rw [HK1.out]; exact hW3
      have HM3 := Lib.hid (law_push (d := (⟨updateS, (hx : Int), A, c, us⟩ : MDV)) HP.out HMq.out HK1.out HC2.out (by rw [HDS.out]; exact HO2.out) HAT2.out (Nat.le_succ _) hW3')
      have HB3 := Lib.hid (law_below HB.out HBW.out HBq.out HMq.out HC2.out hW3')
      have HME := Lib.hid (law_mem (d := (⟨updateS, (hx : Int), A, c, us⟩ : MDV)) (x := (.update hx us)) HP.out (⟨rfl, rfl, rfl, HR.out⟩) (⟨HOK.out, HLV.out.1⟩) HL.out HBE.out HB3.out HE.out hk HK1.out HM3.out)
      have hs3 : wq.heap.size ≤ W3.heap.size := by rw [hW3]; simpa using HC2.out.size
      have HP3 : Hid (W3.heap[w.heap.size]? = some (.cells #[.string ⟨#[117, 112, 100, 97, 116, 101]⟩, .int .i64 hx, .slice A nu c] 34 (0, 0))) := Lib.hid (by
        rw [hW3, heap_setCell_ne _ _ _ _ _ (Nat.ne_of_gt ltt)]
        exact (HC2.out.block _ hs1q (fun e => absurd (own_lt HM.out.deeds e) (Nat.lt_irrefl _))).trans HPX.out)
      have u0 : W3.cell? ⟨t, 0, none⟩ = some (.slice (some ⟨gg, 0, none⟩) k1 cap) := cell_of_heap HM3.out.cell 0
      have HSW : Hid (w.heap.size < W3.heap.size) := Lib.hid (Nat.lt_of_lt_of_le hs1q hs3)
      clear hW3 hW3' t0 t1 t2 tf p0 p1 p2 t0b tfb hs3 hltt
      go_wp2_with (go_at_call 19
                   refine HME.out.mono ?_
                   rintro y w4 ⟨g4, cap4, A4, n4, c4, us4, rfl, a0', a1', a2, hn4, hown4, hul4, hout4, hg4, hb4⟩
                   have HN4 := Lib.hid hn4
                   have HO4 := Lib.hid hown4
                   have HU4 := Lib.hid hul4
                   have HT4 := Lib.hid hout4
                   have HB4 := Lib.hid hb4
                   have HM4 := Lib.hid (HM3.out.below hb4)
                   have HP4 := Lib.hid (heap_below HP3.out hb4)
                   have a0 : w4.cell? ⟨g4, k * 3, none⟩ = some (.int .i64 0) := a0'
                   have a1 : w4.cell? ⟨g4, k * 3 + 1, none⟩ = some (.int .i64 0) := a1'
                   have t0 := cell_of_heap HM4.out.cell 0
                   have t1 := cell_of_heap HM4.out.cell 1
                   have t2 := cell_of_heap HM4.out.cell 2
                   have p0 := cell_of_heap HP4.out 0
                   have p1 := cell_of_heap HP4.out 1
                   have p2 := cell_of_heap HP4.out 2
                   have ltt4 : t < w4.heap.size := lt_of_heap HM4.out.cell
                   have lp4 : w.heap.size < w4.heap.size := lt_of_heap HP4.out
                   clear u0 hn4 hown4 hul4 hout4 hb4 a0' a1')
      obtain ⟨w5, hw5⟩ : ∃ w5, w5 = w4.alloc (.cells #[.int .i64 0, .int .i64 0, .slice A4 n4 c4] 60) := ⟨_, rfl⟩
      rw [← hw5]
      obtain ⟨xb, hxb5⟩ : ∃ xb, xb = w4.heap.size := ⟨_, rfl⟩
      rw [← hxb5]
      have HB5 : Hid (Below w4.heap.size w4 w5) := Lib.hid (hw5 ▸ (Below.refl _ w4).alloc (Nat.le_refl _) _)
      have HX5 : Hid (w5.heap[xb]? = some (.cells #[.int .i64 0, .int .i64 0, .slice A4 n4 c4] 60 (0, 0))) := Lib.hid (by rw [hw5, hxb5]; exact heap_new w4 _)
      have HM5 := Lib.hid (HM4.out.below HB5.out)
      have HP5 := Lib.hid (heap_below HP4.out HB5.out)
      have HXB := Lib.hid hxb5
      clear t0 t1 t2 p0 p1 p2 a0 a1 a2 hw5 hxb5
      have t0 := cell_of_heap HM5.out.cell 0
      have t1 := cell_of_heap HM5.out.cell 1
      have t2 := cell_of_heap HM5.out.cell 2
      have tf : ∀ o, w5.frozen? ⟨t, o, none⟩ = false := free_of_heap HM5.out.cell
      have tf1 := tf 1
      have tf2 := tf 2
      have p0 := cell_of_heap HP5.out 0
      have p1 := cell_of_heap HP5.out 1
      have p2 := cell_of_heap HP5.out 2
      have x0 := cell_of_heap HX5.out 0
      have x1 := cell_of_heap HX5.out 1
      have x2 := cell_of_heap HX5.out 2
      have ltt5 : t < w5.heap.size := lt_of_heap HM5.out.cell
      have lx5 : xb < w5.heap.size := lt_of_heap HX5.out
      have HBW5 : Hid (Below B w0 w5) := Lib.hid (below_up (below_up HB3.out (by have := HBW.out; have := HSW.out; omega) HB4.out) (by have := HBW.out; have := lp4; omega) HB5.out)
      clear tf ltt4 hg4
      go_still_tail 8, (by kernel_rfl)
      obtain ⟨w7, hw7⟩ : ∃ w7, w7 = w5.drew := ⟨_, rfl⟩
      change wpList _ _ _ _ _ w5.drew
      rw [← hw7]
      have t1d : w7.cell? ⟨t, 1, none⟩ = some (.map (some b)) := by rw [hw7]; exact t1
      have p1d : w7.cell? ⟨w.heap.size, 1, none⟩ = some (.int .i64 hx) := by rw [hw7]; exact p1
      have p2d : w7.cell? ⟨w.heap.size, 2, none⟩ = some (.slice A nu c) := by rw [hw7]; exact p2
      have HB7 : Hid (Below w5.heap.size w5 w7) := Lib.hid (hw7 ▸ (Below.refl _ w5).drew)
      have HM7 := Lib.hid (HM5.out.below HB7.out)
      obtain ⟨D7, hown7, hmi7⟩ := HM7.out.now
      have HMI := Lib.hid hmi7
      have HOW := Lib.hid hown7
      have HKL := Lib.hid hk
      clear hw7 hown7 hmi7 t0 t1 t2 tf1 tf2 p0 p1 p2 x0 x1 x2 lx5 ltt5 hk hx1 hx2 hx3 hql hqe
      go_wp2_with (at_mapUpdate
                   refine wpList_mapUpdate_own _ rfl _ _ _ 27 rfl 2 32 mapK Tryz.underlying27 rowR b _ _ rfl HOW.out (Nat.lt_of_le_of_lt HKL.out (by decide)) _ _ (hk hx) rfl rfl (keyN HHB.out) _ _ rfl ?_
                   intro w8 hown8 hg8
                   have HO8 := Lib.hid hown8
                   have HG8 : Hid (Chg (fun z => z = b) w7 w8) := Lib.hid ((Chg.of_grown hg8).mono (fun z _ e => Option.some.inj e))
                   have x0e : w8.cell? ⟨xb, 0, none⟩ = some (.int .i64 0) := (World.cell?_of_block (HG8.out.block xb (lt_of_heap (heap_below HX5.out HB7.out)) (fun e => HM7.out.now.ne (heap_below HX5.out HB7.out) e.symm))).trans (cell_of_heap (heap_below HX5.out HB7.out) 0)
                   clear hown8 hg8)
      go_wp2
      go_ret
      have hmap8 : MapAt w8 b (k + 1) (fun x => if x = hx then some ⟨us, A, c⟩ else N x) := ⟨_, HO8.out, by have := HMI.out.put HOW.out.isMap hx ⟨us, A, c⟩; rw [show (RV.mk us A c).val = .slice A nu c by rw [HNU.out]; rfl] at this; exact this⟩
      have HM8 := HM7.out.put (Nat.le_succ _) HG8.out hmap8
      have hBB := HBW.out
      have hs5 := HB5.out.size
      have hb7 : Below B w0 w7 := below_up HBW5.out (by have := lp4; omega) HB7.out
      have hb8 : Below B w0 w8 := hb7.trans (HG8.out.below (by have := HB7.out.size; have := lp4; omega) (fun z hz => hz ▸ HM7.out.bB))
      refine law_done (HP.out.snoc (N' := fun x => if x = hx then some ⟨us, A, c⟩ else N x) (os' := o :: os) (d := (⟨updateS, (hx : Int), A, c, us⟩ : MDV)) (x := .update hx us) ⟨rfl, rfl, rfl, HR.out⟩ ⟨HOK.out, HLV.out.1⟩ HL.out (HP.out.link.upd HRR.out ⟨us, A, c⟩) (fun x r hx' => ?_) HP.out.links) HM8 hb8
      dsimp only at hx'
      split at hx'
      · injection hx' with hx'
        subst hx'
        exact ⟨HL.out, HR.out⟩
      · exact HP.out.rin x r hx'

end Go.Proofs.YtffgkocokkhahaaGreatDoor

/- laws.deed: "delete". -/
namespace Go.Proofs.YtffgkocokkhahaaGreatDoor
open Go.RowKit Go.Maps

theorem chg_turned {w w' : World} {b : Nat} (h : w.mapTurned w' b) : Chg (fun z => z = b) w w' := by
  obtain ⟨es, clock, es', clock', hb, rfl⟩ := h
  exact ⟨rfl, rfl, rfl, by simp [Go.ChangeMaps.setBlock], fun i _ hi => Go.ChangeMaps.heap_setBlock_other hb _ hi⟩

set_option maxRecDepth 100000 in
set_option maxHeartbeats 6400000 in
theorem tried_delete1 {w0 w : World} {B t k b : Nat} {dv : List MDV} {dm : List (MD (List VV))} {N : NMap} {o : Nat × NMap} {os : List (Nat × NMap)} {dsv ov : Value} {a : Addr} (hp : TrP w0 dv dm N (o :: os) k) (hm : TrM B w t k dv b N (o :: os) dsv ov) (hb : Below B w0 w) (hB : B = w0.heap.size) (hBw : B ≤ w.heap.size) (hE : ErrsOk w0 a) (hk : k ≤ 85) {dh : Int} {A : Option Addr} {c : Nat} {us : List VV} (hl : LAt w0 A us) (h0 : 0 ≤ dh) :
    Calls Tryz.prog 8 #[.pointer (some ⟨t, 0, none⟩), .agg #[.string ⟨#[100, 101, 108, 101, 116, 101]⟩, .int .i64 dh, .slice A us.length c]] w (DeedP B w0 t k) := by
  obtain ⟨i0, hi0, hz0, hz1, hz2⟩ := info_parts info_mdeed
  obtain ⟨Ad, cd, rfl⟩ := own_form hm.deeds
  obtain ⟨Ao, co, rfl⟩ := own_form hm.opens
  rw [hp.len1] at hm
  obtain ⟨nu, hnu⟩ : ∃ nu, nu = us.length := ⟨_, rfl⟩
  obtain ⟨q, hq⟩ : ∃ q, q = ((o :: os) : List (Nat × NMap)).length := ⟨_, rfl⟩
  rw [← hq] at hm
  obtain ⟨k1, hk1⟩ : ∃ k1, k1 = k + 1 := ⟨_, rfl⟩
  have hx1 : (k1 : Int) - 1 = (k : Int) := i64_pred2 hk1
  have hx2 : IntKind.i64.wrap ((k1 : Int) - 1) = (k : Int) := i64_pred3 hk1 (by omega)
  have hx3 : k < k1 := by omega
  have hql : q ≤ k := by rw [hq]; exact hp.opens
  have hqe : ((q : Int) == 0) = false := by
    have h0 : (q : Int) ≠ 0 := by rw [hq]; exact Int.ofNat_ne_zero.2 (Nat.succ_ne_zero _)
    exact beq_eq_false_iff_ne.2 h0
  have HK1 := Lib.hid hk1
  have HQ := Lib.hid hq
  have HP := Lib.hid hp
  have HM := Lib.hid hm
  have HB := Lib.hid hb
  have HBW := Lib.hid hBw
  have HBE := Lib.hid hB
  have HE := Lib.hid hE
  have HL := Lib.hid hl
  have HNU := Lib.hid hnu
  rw [← hnu]
  have HDH := Lib.hid h0
  clear h0
  have HOK : Hid ((runM [] c0M dm).2 ≠ []) := Lib.hid (by obtain ⟨s, ss, e, _⟩ := hp.links; rw [e]; simp)
  have HHD : Hid (∀ w', Below w.heap.size w w' → Calls Tryz.prog 9 #[.map (some b)] w' (HandlesP k N w')) := Lib.hid (fun w' hw => handles_any (hm.now.chg (Chg.of_below (S := fun _ => False) hw) id) (by omega) (fun x r hx => by have := hp.bound hx; omega))
  have c0 : w.cell? ⟨t, 0, none⟩ = some (.slice Ad k cd) := cell_of_heap hm.cell 0
  have c1 : w.cell? ⟨t, 1, none⟩ = some (.map (some b)) := cell_of_heap hm.cell 1
  have c2 : w.cell? ⟨t, 2, none⟩ = some (.slice Ao q co) := cell_of_heap hm.cell 2
  have ltt : t < w.heap.size := lt_of_heap hm.cell
  clear hp hm hb hB hBw hE hl hnu hq hk1
  go_enter Tryz.func8, Tryz.ntmps8
  go_wp2_with (go_at_call 9
               refine (HHD.out _ ((Below.refl _ _).alloc (Nat.le_refl _) _)).mono ?_
               rintro y w1 ⟨A1, n1, cc1, xs, rfl, hn1, hown1, hall1, hk1x, hb1⟩
               have HO1 := Lib.hid hown1
               have HA1 := Lib.hid hall1
               have HKX := Lib.hid hk1x
               have HB1 : Hid (Below w.heap.size w w1) := Lib.hid (up_below' ((Below.refl _ w).alloc (Nat.le_refl _) _) hb1)
               have HP1 : Hid (w1.heap[w.heap.size]? = some (.cells #[.string ⟨#[100, 101, 108, 101, 116, 101]⟩, .int .i64 dh, .slice A nu c] 34 (0, 0))) := Lib.hid (heap_below (heap_new w (.cells #[.string ⟨#[100, 101, 108, 101, 116, 101]⟩, .int .i64 dh, .slice A nu c] 34)) hb1)
               have HT1 : Hid (w1.heap[t]? = some (.cells #[.slice Ad k cd, .map (some b), .slice Ao q co] 30 (0, 0))) := Lib.hid (heap_below HM.out.cell HB1.out)
               have HM1 := Lib.hid (HM.out.below HB1.out)
               have hs1 : w.heap.size < w1.heap.size := lt_of_heap HP1.out
               have t0 := cell_of_heap HT1.out 0
               have t1 := cell_of_heap HT1.out 1
               have t2 := cell_of_heap HT1.out 2
               have tf := free_of_heap HT1.out 0
               have p0 := cell_of_heap HP1.out 0
               have p1 := cell_of_heap HP1.out 1
               have p2 := cell_of_heap HP1.out 2
               clear hall1 hk1x hb1 c0 c1 c2
               rcases rem_cases (xs := xs) HDH.out hn1 hown1 with hz | ⟨j, hx, gx, cx, hz, hj, hrm, hA1, hxm, hxc⟩
               all_goals try (subst hA1; have HXM := Lib.hid hxm; have pf := free_of_heap HP1.out 1; clear hxm)
               all_goals clear hn1 hown1)
  · go_ret
    exact Tr.stay HP.out HM.out HB.out HBW.out HB1.out
  · obtain ⟨wq, hwq⟩ : ∃ wq, wq = w1.setCell ⟨w.heap.size, 1, none⟩ (.int .i64 hx) := ⟨_, rfl⟩
    rw [← hwq]
    have hkq : Chg (fun z => z = w.heap.size) w1 wq := hwq ▸ chg_m w.heap.size 1 _
    have HKQ := Lib.hid hkq
    have hsq : w1.heap.size ≤ wq.heap.size := hkq.size
    have HBq : Hid (Below w.heap.size w wq) := Lib.hid (HB1.out.trans (hkq.below (Nat.le_of_lt hs1) (fun z hz => by omega)))
    have HMq := Lib.hid (HM.out.below HBq.out)
    have HTq : Hid (wq.heap[t]? = some (.cells #[.slice Ad k cd, .map (some b), .slice Ao q co] 30 (0, 0))) := Lib.hid (heap_below HM.out.cell HBq.out)
    have HPX : Hid (wq.heap[w.heap.size]? = some (.cells #[.string ⟨#[100, 101, 108, 101, 116, 101]⟩, .int .i64 hx, .slice A nu c] 34 (0, 0))) := Lib.hid (by rw [hwq, heap_setCell_at, HP1.out]; rfl)
    have hs1q : w.heap.size < wq.heap.size := lt_of_heap HPX.out
    clear t0 t1 t2 tf p0 p1 p2 hwq hkq hrm hxc hz hj pf hsq hs1
    have t0 := cell_of_heap HTq.out 0
    have t1 := cell_of_heap HTq.out 1
    have t2 := cell_of_heap HTq.out 2
    have tf := free_of_heap HTq.out 0
    have p0 := cell_of_heap HPX.out 0
    have p1 := cell_of_heap HPX.out 1
    have p2 := cell_of_heap HPX.out 2
    obtain ⟨rr, hrr⟩ := HA1.out hx HXM.out
    have HRR := Lib.hid hrr
    have HLV := Lib.hid ((HP.out.link hx).1 rr hrr)
    have HHB : Hid (hx ≤ 100000) := Lib.hid (by have := HP.out.bound hrr; omega)
    clear hrr
    have HDS : Hid (MDV.cells (⟨deleteS, (hx : Int), A, c, us⟩ : MDV) = [.string ⟨#[100, 101, 108, 101, 116, 101]⟩, .int .i64 hx, .slice A nu c]) := Lib.hid (by rw [HNU.out]; rfl)
    have hxk : k + 1 ≤ maxLen := Nat.le_trans (Nat.add_le_add_right hk 1) (by decide)
    have hxb : (k + 1) * 48 ≤ 140737488355328 := Nat.le_trans (Nat.mul_le_mul_right 48 (Nat.add_le_add_right hk 1)) (by decide)
    have hltt : t < wq.heap.size := lt_of_heap HTq.out
    have HBB : Hid (B ≤ (wq.alloc (.cells #[.string ⟨#[100, 101, 108, 101, 116, 101]⟩, .int .i64 hx, .slice A nu c] 34)).heap.size) := Lib.hid (by have := HBW.out; simp; omega)
    have HDO : Hid (wq.ownsRow B 34 3 (.slice Ad k cd) k (flat MDV.cells dv)) := Lib.hid (by have := HMq.out.deeds; rw [HP.out.len1] at this; exact this)
    go_region_law
      ((refine step_append_lies _ (by rfl) _ _ _ (by rfl) B 34 i0 _ 3 48 Tryz.underlying22 hi0 hz0 hz1 hz2 rfl (by decide) (.slice Ad k cd) k (flat MDV.cells dv) (by rfl) ((HDO.out.alloc _).drew)
          ⟨wq.heap.size, 0, none⟩ 1 1 [.string ⟨#[100, 101, 108, 101, 116, 101]⟩, .int .i64 hx, .slice A nu c] (by rfl) (by rfl) (World.news_of_block (cs := #[.string ⟨#[100, 101, 108, 101, 116, 101]⟩, .int .i64 hx, .slice A nu c]) (t := 34) (fr := (0, 0)) (heap_alloc_new wq _)) (by simp [Value.oneCell'])
          (by decide) hxk hxb HBB.out (wq.heap.size + 1) (by simp) ?_; intro gg cap w2 hown2 hgrow2 hat2 hlt2
        have HC2 : Hid (Chg (fun z => (Value.slice Ad k cd).ownBlock = some z) wq w2) := Lib.hid ((((Chg.refl _ wq).alloc _).drew).trans ((Chg.of_grown hgrow2).mono (fun z _ hz => hz.symm)))
        have E2 : Hid (w2.heap[t]? = wq.heap[t]?) := Lib.hid (HC2.out.block t hltt (own_ne HDO.out HTq.out (by decide)))
        have t0b : w2.cell? ⟨t, 0, none⟩ = some (.slice Ad k cd) := (World.cell?_of_block E2.out).trans t0
        have tfb : w2.frozen? ⟨t, 0, none⟩ = false := (World.frozen?_of_block E2.out).trans tf
        have HO2 := Lib.hid hown2
        have HAT2 := Lib.hid hat2
        clear hown2 hgrow2 hat2))
    all_goals
      obtain ⟨W3, hW3⟩ : ∃ W3, W3 = w2.setCell ⟨t, 0, none⟩ (.slice (some ⟨gg, 0, none⟩) (k + 1) cap) := ⟨_, rfl⟩
      rw [← hW3]
      have hW3' : W3 = w2.setCell ⟨t, 0, none⟩ (.slice (some ⟨gg, 0, none⟩) k1 cap) := by rw [HK1.out]; exact hW3
      have HM3 := Lib.hid (law_push (d := (⟨deleteS, (hx : Int), A, c, us⟩ : MDV)) HP.out HMq.out HK1.out HC2.out (by rw [HDS.out]; exact HO2.out) HAT2.out (Nat.le_succ _) hW3')
      have HB3 := Lib.hid (law_below HB.out HBW.out HBq.out HMq.out HC2.out hW3')
      have HME := Lib.hid (law_mem (d := (⟨deleteS, (hx : Int), A, c, us⟩ : MDV)) (x := (.delete hx)) HP.out (⟨rfl, rfl⟩) (⟨HOK.out, HLV.out.1⟩) HL.out HBE.out HB3.out HE.out hk HK1.out HM3.out)
      have hs3 : wq.heap.size ≤ W3.heap.size := by rw [hW3]; simpa using HC2.out.size
      have HP3 : Hid (W3.heap[w.heap.size]? = some (.cells #[.string ⟨#[100, 101, 108, 101, 116, 101]⟩, .int .i64 hx, .slice A nu c] 34 (0, 0))) := Lib.hid (by
        rw [hW3, heap_setCell_ne _ _ _ _ _ (Nat.ne_of_gt ltt)]
        exact (HC2.out.block _ hs1q (fun e => absurd (own_lt HM.out.deeds e) (Nat.lt_irrefl _))).trans HPX.out)
      have u0 : W3.cell? ⟨t, 0, none⟩ = some (.slice (some ⟨gg, 0, none⟩) k1 cap) := cell_of_heap HM3.out.cell 0
      have HSW : Hid (w.heap.size < W3.heap.size) := Lib.hid (Nat.lt_of_lt_of_le hs1q hs3)
      clear hW3 hW3' t0 t1 t2 tf p0 p1 p2 t0b tfb hs3 hltt
      go_wp2_with (go_at_call 19
                   refine HME.out.mono ?_
                   rintro y w4 ⟨g4, cap4, A4, n4, c4, us4, rfl, a0', a1', a2, hn4, hown4, hul4, hout4, hg4, hb4⟩
                   have HN4 := Lib.hid hn4
                   have HO4 := Lib.hid hown4
                   have HU4 := Lib.hid hul4
                   have HT4 := Lib.hid hout4
                   have HB4 := Lib.hid hb4
                   have HM4 := Lib.hid (HM3.out.below hb4)
                   have HP4 := Lib.hid (heap_below HP3.out hb4)
                   have a0 : w4.cell? ⟨g4, k * 3, none⟩ = some (.int .i64 0) := a0'
                   have a1 : w4.cell? ⟨g4, k * 3 + 1, none⟩ = some (.int .i64 0) := a1'
                   have t0 := cell_of_heap HM4.out.cell 0
                   have t1 := cell_of_heap HM4.out.cell 1
                   have t2 := cell_of_heap HM4.out.cell 2
                   have p0 := cell_of_heap HP4.out 0
                   have p1 := cell_of_heap HP4.out 1
                   have p2 := cell_of_heap HP4.out 2
                   have ltt4 : t < w4.heap.size := lt_of_heap HM4.out.cell
                   have lp4 : w.heap.size < w4.heap.size := lt_of_heap HP4.out
                   clear u0 hn4 hown4 hul4 hout4 hb4 a0' a1')
      obtain ⟨w5, hw5⟩ : ∃ w5, w5 = w4.alloc (.cells #[.int .i64 0, .int .i64 0, .slice A4 n4 c4] 60) := ⟨_, rfl⟩
      rw [← hw5]
      obtain ⟨xb, hxb5⟩ : ∃ xb, xb = w4.heap.size := ⟨_, rfl⟩
      rw [← hxb5]
      have HB5 : Hid (Below w4.heap.size w4 w5) := Lib.hid (hw5 ▸ (Below.refl _ w4).alloc (Nat.le_refl _) _)
      have HX5 : Hid (w5.heap[xb]? = some (.cells #[.int .i64 0, .int .i64 0, .slice A4 n4 c4] 60 (0, 0))) := Lib.hid (by rw [hw5, hxb5]; exact heap_new w4 _)
      have HM5 := Lib.hid (HM4.out.below HB5.out)
      have HP5 := Lib.hid (heap_below HP4.out HB5.out)
      have HXB := Lib.hid hxb5
      clear t0 t1 t2 p0 p1 p2 a0 a1 a2 hw5 hxb5
      have t0 := cell_of_heap HM5.out.cell 0
      have t1 := cell_of_heap HM5.out.cell 1
      have t2 := cell_of_heap HM5.out.cell 2
      have tf : ∀ o, w5.frozen? ⟨t, o, none⟩ = false := free_of_heap HM5.out.cell
      have tf1 := tf 1
      have tf2 := tf 2
      have p0 := cell_of_heap HP5.out 0
      have p1 := cell_of_heap HP5.out 1
      have p2 := cell_of_heap HP5.out 2
      have x0 := cell_of_heap HX5.out 0
      have x1 := cell_of_heap HX5.out 1
      have x2 := cell_of_heap HX5.out 2
      have ltt5 : t < w5.heap.size := lt_of_heap HM5.out.cell
      have lx5 : xb < w5.heap.size := lt_of_heap HX5.out
      have HBW5 : Hid (Below B w0 w5) := Lib.hid (below_up (below_up HB3.out (by have := HBW.out; have := HSW.out; omega) HB4.out) (by have := HBW.out; have := lp4; omega) HB5.out)
      clear tf ltt4 hg4
      go_still_tail 6, (by kernel_rfl)
      obtain ⟨w7, hw7⟩ : ∃ w7, w7 = w5.drew := ⟨_, rfl⟩
      change wpList _ _ _ _ _ w5.drew
      rw [← hw7]
      have t1d : w7.cell? ⟨t, 1, none⟩ = some (.map (some b)) := by rw [hw7]; exact t1
      have p1d : w7.cell? ⟨w.heap.size, 1, none⟩ = some (.int .i64 hx) := by rw [hw7]; exact p1
      have p2d : w7.cell? ⟨w.heap.size, 2, none⟩ = some (.slice A nu c) := by rw [hw7]; exact p2
      have HB7 : Hid (Below w5.heap.size w5 w7) := Lib.hid (hw7 ▸ (Below.refl _ w5).drew)
      have HM7 := Lib.hid (HM5.out.below HB7.out)
      obtain ⟨D7, hown7, hmi7⟩ := HM7.out.now
      have HMI := Lib.hid hmi7
      have HOW := Lib.hid hown7
      have HKL := Lib.hid hk
      clear hw7 hown7 hmi7 t0 t1 t2 tf1 tf2 p0 p1 p2 x0 x1 x2 lx5 ltt5 hk hx1 hx2 hx3 hql hqe
      go_wp2_with (at_delete
                   refine wpList_delete_own _ rfl _ _ 27 2 rfl 32 mapK Tryz.underlying27 rowR b _ _ rfl HOW.out _ (hk hx) rfl (keyN HHB.out) ?_
                   intro w8 hown8 hg8
                   have HO8 := Lib.hid hown8
                   have HG8 : Hid (Chg (fun z => z = b) w7 w8) := Lib.hid (chg_turned hg8)
                   have x0e : w8.cell? ⟨xb, 0, none⟩ = some (.int .i64 0) := (World.cell?_of_block (HG8.out.block xb (lt_of_heap (heap_below HX5.out HB7.out)) (fun e => HM7.out.now.ne (heap_below HX5.out HB7.out) e.symm))).trans (cell_of_heap (heap_below HX5.out HB7.out) 0)
                   clear hown8 hg8)
      go_wp2
      go_ret
      have hmap8 : MapAt w8 b (k + 1) (fun x => if x = hx then none else N x) := ⟨_, HO8.out.mono (Nat.le_succ _), HMI.out.del hx⟩
      have HM8 := HM7.out.put (Nat.le_succ _) HG8.out hmap8
      have hBB := HBW.out
      have hs5 := HB5.out.size
      have hb7 : Below B w0 w7 := below_up HBW5.out (by have := lp4; omega) HB7.out
      have hb8 : Below B w0 w8 := hb7.trans (HG8.out.below (by have := HB7.out.size; have := lp4; omega) (fun z hz => hz ▸ HM7.out.bB))
      refine law_done (HP.out.snoc (N' := fun x => if x = hx then none else N x) (os' := o :: os) (d := (⟨deleteS, (hx : Int), A, c, us⟩ : MDV)) (x := .delete hx) ⟨rfl, rfl⟩ ⟨HOK.out, HLV.out.1⟩ HL.out (HP.out.link.del hx []) (fun x r hx' => ?_) HP.out.links) HM8 hb8
      dsimp only at hx'
      split at hx'
      · cases hx'
      · exact HP.out.rin x r hx'

end Go.Proofs.YtffgkocokkhahaaGreatDoor
