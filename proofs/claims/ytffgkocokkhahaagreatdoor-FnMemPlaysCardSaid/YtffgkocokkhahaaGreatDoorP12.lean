/-
  laws.deed: "read".
-/
import Derived.Test.YtffgkocokkhahaaGreatDoorP10
import Derived.BigQuiet
import Derived.Deep.RegionLaw

/- laws.deed: "read". -/
namespace Go.Proofs.YtffgkocokkhahaaGreatDoor
open Go.RowKit Go.Maps

set_option maxRecDepth 100000 in
theorem look_row {w : World} {b n x : Nat} {N : NMap} {r : RV} (h : MapAt w b n N) (hx : N x = some r) (hx9 : x ≤ 100000) : (Instr.lookup 27 (.map (some b)) (.int .i64 (x : Int)) false).run Tryz.prog w = .ok (.slice r.A r.l.length r.c) w := by
  obtain ⟨D, h1, h2⟩ := h
  obtain ⟨v, ps, hrun, hv⟩ := h1.lookup (t := 27) mapK Tryz.underlying27 (zero_row w) (zd := .held (.slice none 0 0)) (zp := []) rfl (keyN hx9)
  rw [(h2.rows x r hx).2] at hv
  obtain ⟨A, n', c, rfl, e⟩ := rowR_inv hv
  injection e with e _
  injection e with e
  rw [← e] at hrun
  exact hrun

/-- What was read is what is there. -/
theorem read_same {w0 w4 W3 : World} {k hx n4 c4 : Nat} {dv : List MDV} {dm : List (MD (List VV))} {N : NMap} {os : List (Nat × NMap)} {A4 : Option Addr} {us4 : List VV} {r : RV} (hp : TrP w0 dv dm N os k) (hr : N hx = some r) (hn : n4 = us4.length) (ho : w4.ownsRow W3.heap.size 57 5 (.slice A4 n4 c4) n4 (flat VV.cells us4))
    (hu : us4.length = (ans [] (runM [] c0M dm) (.read hx)).row.length) (ht : ∀ (j : Nat) (v u : VV), (ans [] (runM [] c0M dm) (.read hx)).row[j]? = some v → us4[j]? = some u → OutOf v u) : LAt w4 A4 us4 ∧ SameL us4 r.l ∧ us4.length ≤ 2147483647 := by
  have hd := ((hp.link hx).1 r hr).2
  have he : (ans [] (runM [] c0M dm) (.read hx)).row = r.l := by show ((runM [] c0M dm).1.data[hx]?).getD [] = r.l; rw [hd]; rfl
  rw [he] at hu ht
  have hm := (hp.rin hx r hr).2
  refine ⟨lat_reads (Reads.of_own ho) hn.symm, ⟨hu, fun i x y hx hy => out_same (hm.conc i y hy).1 (ht i y x hy hx)⟩, by have := hm.len; omega⟩

set_option maxRecDepth 100000 in
set_option maxHeartbeats 6400000 in
theorem tried_read0 {w0 w : World} {B t k b : Nat} {dv : List MDV} {dm : List (MD (List VV))} {N : NMap} {dsv ov : Value} {a : Addr} (hp : TrP w0 dv dm N [] k) (hm : TrM B w t k dv b N [] dsv ov) (hb : Below B w0 w) (hB : B = w0.heap.size) (hBw : B ≤ w.heap.size) (hE : ErrsOk w0 a) (hk : k ≤ 85) {dh : Int} {A : Option Addr} {c : Nat} {us : List VV} (hl : LAt w0 A us) (h0 : 0 ≤ dh) :
    Calls Tryz.prog 8 #[.pointer (some ⟨t, 0, none⟩), .agg #[.string ⟨#[114, 101, 97, 100]⟩, .int .i64 dh, .slice A us.length c]] w (DeedP B w0 t k) := by
  obtain ⟨i0, hi0, hz0, hz1, hz2⟩ := info_parts info_mdeed
  obtain ⟨Ad, cd, rfl⟩ := own_form hm.deeds
  obtain ⟨Ao, co, rfl⟩ := own_form hm.opens
  rw [hp.len1] at hm
  obtain ⟨nu, hnu⟩ : ∃ nu, nu = us.length := ⟨_, rfl⟩
  obtain ⟨q, hq⟩ : ∃ q, q = ([] : List (Nat × NMap)).length := ⟨_, rfl⟩
  rw [← hq] at hm
  obtain ⟨k1, hk1⟩ : ∃ k1, k1 = k + 1 := ⟨_, rfl⟩
  have hx1 : (k1 : Int) - 1 = (k : Int) := i64_pred2 hk1
  have hx2 : IntKind.i64.wrap ((k1 : Int) - 1) = (k : Int) := i64_pred3 hk1 (by omega)
  have hx3 : k < k1 := by omega
  have hql : q ≤ k := by rw [hq]; exact hp.opens
  have hqe : ((q : Int) == 0) = true := by rw [hq]; rfl
  have HK1 := Lib.hid hk1
  have HQ := Lib.hid hq
  have HP := Lib.hid hp
  have HM := Lib.hid hm
  have HB := Lib.hid hb
  have HBW := Lib.hid hBw
  have HBE := Lib.hid hB
  have HE := Lib.hid hE
  have HL := Lib.hid hl
  have HNU := Lib.hid hnu
  rw [← hnu]
  have HDH := Lib.hid h0
  clear h0
  have HCE : Hid ((runM [] c0M dm).2 = []) := Lib.hid hp.links
  have HHD : Hid (∀ w', Below w.heap.size w w' → Calls Tryz.prog 9 #[.map (some b)] w' (HandlesP k N w')) := Lib.hid (fun w' hw => handles_any (hm.now.chg (Chg.of_below (S := fun _ => False) hw) id) (by omega) (fun x r hx => by have := hp.bound hx; omega))
  have c0 : w.cell? ⟨t, 0, none⟩ = some (.slice Ad k cd) := cell_of_heap hm.cell 0
  have c1 : w.cell? ⟨t, 1, none⟩ = some (.map (some b)) := cell_of_heap hm.cell 1
  have c2 : w.cell? ⟨t, 2, none⟩ = some (.slice Ao q co) := cell_of_heap hm.cell 2
  have ltt : t < w.heap.size := lt_of_heap hm.cell
  clear hp hm hb hB hBw hE hl hnu hq hk1
  go_enter Tryz.func8, Tryz.ntmps8
  go_wp2_with (go_at_call 9
               refine (HHD.out _ ((Below.refl _ _).alloc (Nat.le_refl _) _)).mono ?_
               rintro y w1 ⟨A1, n1, cc1, xs, rfl, hn1, hown1, hall1, hk1x, hb1⟩
               have HO1 := Lib.hid hown1
               have HA1 := Lib.hid hall1
               have HKX := Lib.hid hk1x
               have HB1 : Hid (Below w.heap.size w w1) := Lib.hid (up_below' ((Below.refl _ w).alloc (Nat.le_refl _) _) hb1)
               have HP1 : Hid (w1.heap[w.heap.size]? = some (.cells #[.string ⟨#[114, 101, 97, 100]⟩, .int .i64 dh, .slice A nu c] 34 (0, 0))) := Lib.hid (heap_below (heap_new w (.cells #[.string ⟨#[114, 101, 97, 100]⟩, .int .i64 dh, .slice A nu c] 34)) hb1)
               have HT1 : Hid (w1.heap[t]? = some (.cells #[.slice Ad k cd, .map (some b), .slice Ao q co] 30 (0, 0))) := Lib.hid (heap_below HM.out.cell HB1.out)
               have HM1 := Lib.hid (HM.out.below HB1.out)
               have hs1 : w.heap.size < w1.heap.size := lt_of_heap HP1.out
               have t0 := cell_of_heap HT1.out 0
               have t1 := cell_of_heap HT1.out 1
               have t2 := cell_of_heap HT1.out 2
               have tf := free_of_heap HT1.out 0
               have p0 := cell_of_heap HP1.out 0
               have p1 := cell_of_heap HP1.out 1
               have p2 := cell_of_heap HP1.out 2
               clear hall1 hk1x hb1 c0 c1 c2
               rcases rem_cases (xs := xs) HDH.out hn1 hown1 with hz | ⟨j, hx, gx, cx, hz, hj, hrm, hA1, hxm, hxc⟩
               all_goals try (subst hA1; have HXM := Lib.hid hxm; have pf := free_of_heap HP1.out 1; clear hxm)
               all_goals clear hn1 hown1)
  · go_ret
    exact Tr.stay HP.out HM.out HB.out HBW.out HB1.out
  · obtain ⟨wq, hwq⟩ : ∃ wq, wq = w1.setCell ⟨w.heap.size, 1, none⟩ (.int .i64 hx) := ⟨_, rfl⟩
    rw [← hwq]
    have hkq : Chg (fun z => z = w.heap.size) w1 wq := hwq ▸ chg_m w.heap.size 1 _
    have HKQ := Lib.hid hkq
    have hsq : w1.heap.size ≤ wq.heap.size := hkq.size
    have HBq : Hid (Below w.heap.size w wq) := Lib.hid (HB1.out.trans (hkq.below (Nat.le_of_lt hs1) (fun z hz => by omega)))
    have HMq := Lib.hid (HM.out.below HBq.out)
    have HTq : Hid (wq.heap[t]? = some (.cells #[.slice Ad k cd, .map (some b), .slice Ao q co] 30 (0, 0))) := Lib.hid (heap_below HM.out.cell HBq.out)
    have HPX : Hid (wq.heap[w.heap.size]? = some (.cells #[.string ⟨#[114, 101, 97, 100]⟩, .int .i64 hx, .slice A nu c] 34 (0, 0))) := Lib.hid (by rw [hwq, heap_setCell_at, HP1.out]; rfl)
    have hs1q : w.heap.size < wq.heap.size := lt_of_heap HPX.out
    clear t0 t1 t2 tf p0 p1 p2 hwq hkq hrm hxc hz hj pf hsq hs1
    have t0 := cell_of_heap HTq.out 0
    have t1 := cell_of_heap HTq.out 1
    have t2 := cell_of_heap HTq.out 2
    have tf := free_of_heap HTq.out 0
    have p0 := cell_of_heap HPX.out 0
    have p1 := cell_of_heap HPX.out 1
    have p2 := cell_of_heap HPX.out 2
    obtain ⟨rr, hrr⟩ := HA1.out hx HXM.out
    have HRR := Lib.hid hrr
    have HLV := Lib.hid ((HP.out.link hx).1 rr hrr)
    have HHB : Hid (hx ≤ 100000) := Lib.hid (by have := HP.out.bound hrr; omega)
    clear hrr
    have HDS : Hid (MDV.cells (⟨readS, (hx : Int), A, c, us⟩ : MDV) = [.string ⟨#[114, 101, 97, 100]⟩, .int .i64 hx, .slice A nu c]) := Lib.hid (by rw [HNU.out]; rfl)
    have hxk : k + 1 ≤ maxLen := Nat.le_trans (Nat.add_le_add_right hk 1) (by decide)
    have hxb : (k + 1) * 48 ≤ 140737488355328 := Nat.le_trans (Nat.mul_le_mul_right 48 (Nat.add_le_add_right hk 1)) (by decide)
    have hltt : t < wq.heap.size := lt_of_heap HTq.out
    have HBB : Hid (B ≤ (wq.alloc (.cells #[.string ⟨#[114, 101, 97, 100]⟩, .int .i64 hx, .slice A nu c] 34)).heap.size) := Lib.hid (by have := HBW.out; simp; omega)
    have HDO : Hid (wq.ownsRow B 34 3 (.slice Ad k cd) k (flat MDV.cells dv)) := Lib.hid (by have := HMq.out.deeds; rw [HP.out.len1] at this; exact this)
    go_region_law
      ((refine step_append_lies _ (by rfl) _ _ _ (by rfl) B 34 i0 _ 3 48 Tryz.underlying22 hi0 hz0 hz1 hz2 rfl (by decide) (.slice Ad k cd) k (flat MDV.cells dv) (by rfl) ((HDO.out.alloc _).drew)
          ⟨wq.heap.size, 0, none⟩ 1 1 [.string ⟨#[114, 101, 97, 100]⟩, .int .i64 hx, .slice A nu c] (by rfl) (by rfl) (World.news_of_block (cs := #[.string ⟨#[114, 101, 97, 100]⟩, .int .i64 hx, .slice A nu c]) (t := 34) (fr := (0, 0)) (heap_alloc_new wq _)) (by simp [Value.oneCell'])
          (by decide) hxk hxb HBB.out (wq.heap.size + 1) (by simp) ?_; intro gg cap w2 hown2 hgrow2 hat2 hlt2
        have HC2 : Hid (Chg (fun z => (Value.slice Ad k cd).ownBlock = some z) wq w2) := Lib.hid ((((Chg.refl _ wq).alloc _).drew).trans ((Chg.of_grown hgrow2).mono (fun z _ hz => hz.symm)))
        have E2 : Hid (w2.heap[t]? = wq.heap[t]?) := Lib.hid (HC2.out.block t hltt (own_ne HDO.out HTq.out (by decide)))
        have t0b : w2.cell? ⟨t, 0, none⟩ = some (.slice Ad k cd) := (World.cell?_of_block E2.out).trans t0
        have tfb : w2.frozen? ⟨t, 0, none⟩ = false := (World.frozen?_of_block E2.out).trans tf
        have HO2 := Lib.hid hown2
        have HAT2 := Lib.hid hat2
        clear hown2 hgrow2 hat2))
    all_goals
      obtain ⟨W3, hW3⟩ : ∃ W3, W3 = w2.setCell ⟨t, 0, none⟩ (.slice (some ⟨gg, 0, none⟩) (k + 1) cap) := ⟨_, rfl⟩
      rw [← hW3]
      have hW3' : W3 = w2.setCell ⟨t, 0, none⟩ (.slice (some ⟨gg, 0, none⟩) k1 cap) := by rw [HK1.out]; exact hW3
      have HM3 := Lib.hid (law_push (d := (⟨readS, (hx : Int), A, c, us⟩ : MDV)) HP.out HMq.out HK1.out HC2.out (by rw [HDS.out]; exact HO2.out) HAT2.out (Nat.le_succ _) hW3')
      have HB3 := Lib.hid (law_below HB.out HBW.out HBq.out HMq.out HC2.out hW3')
      have HME := Lib.hid (law_mem (d := (⟨readS, (hx : Int), A, c, us⟩ : MDV)) (x := (.read hx)) HP.out (⟨rfl, rfl⟩) (HLV.out.1) HL.out HBE.out HB3.out HE.out hk HK1.out HM3.out)
      have hs3 : wq.heap.size ≤ W3.heap.size := by rw [hW3]; simpa using HC2.out.size
      have HP3 : Hid (W3.heap[w.heap.size]? = some (.cells #[.string ⟨#[114, 101, 97, 100]⟩, .int .i64 hx, .slice A nu c] 34 (0, 0))) := Lib.hid (by
        rw [hW3, heap_setCell_ne _ _ _ _ _ (Nat.ne_of_gt ltt)]
        exact (HC2.out.block _ hs1q (fun e => absurd (own_lt HM.out.deeds e) (Nat.lt_irrefl _))).trans HPX.out)
      have u0 : W3.cell? ⟨t, 0, none⟩ = some (.slice (some ⟨gg, 0, none⟩) k1 cap) := cell_of_heap HM3.out.cell 0
      have HSW : Hid (w.heap.size < W3.heap.size) := Lib.hid (Nat.lt_of_lt_of_le hs1q hs3)
      clear hW3 hW3' t0 t1 t2 tf p0 p1 p2 t0b tfb hs3 hltt
      go_wp2_with (go_at_call 19
                   refine HME.out.mono ?_
                   rintro y w4 ⟨g4, cap4, A4, n4, c4, us4, rfl, a0', a1', a2, hn4, hown4, hul4, hout4, hg4, hb4⟩
                   have HN4 := Lib.hid hn4
                   have HO4 := Lib.hid hown4
                   have HU4 := Lib.hid hul4
                   have HT4 := Lib.hid hout4
                   have HB4 := Lib.hid hb4
                   have HM4 := Lib.hid (HM3.out.below hb4)
                   have HP4 := Lib.hid (heap_below HP3.out hb4)
                   have a0 : w4.cell? ⟨g4, k * 3, none⟩ = some (.int .i64 0) := a0'
                   have a1 : w4.cell? ⟨g4, k * 3 + 1, none⟩ = some (.int .i64 0) := a1'
                   have t0 := cell_of_heap HM4.out.cell 0
                   have t1 := cell_of_heap HM4.out.cell 1
                   have t2 := cell_of_heap HM4.out.cell 2
                   have p0 := cell_of_heap HP4.out 0
                   have p1 := cell_of_heap HP4.out 1
                   have p2 := cell_of_heap HP4.out 2
                   have ltt4 : t < w4.heap.size := lt_of_heap HM4.out.cell
                   have lp4 : w.heap.size < w4.heap.size := lt_of_heap HP4.out
                   clear u0 hn4 hown4 hul4 hout4 hb4 a0' a1')
      obtain ⟨w5, hw5⟩ : ∃ w5, w5 = w4.alloc (.cells #[.int .i64 0, .int .i64 0, .slice A4 n4 c4] 60) := ⟨_, rfl⟩
      rw [← hw5]
      obtain ⟨xb, hxb5⟩ : ∃ xb, xb = w4.heap.size := ⟨_, rfl⟩
      rw [← hxb5]
      have HB5 : Hid (Below w4.heap.size w4 w5) := Lib.hid (hw5 ▸ (Below.refl _ w4).alloc (Nat.le_refl _) _)
      have HX5 : Hid (w5.heap[xb]? = some (.cells #[.int .i64 0, .int .i64 0, .slice A4 n4 c4] 60 (0, 0))) := Lib.hid (by rw [hw5, hxb5]; exact heap_new w4 _)
      have HM5 := Lib.hid (HM4.out.below HB5.out)
      have HP5 := Lib.hid (heap_below HP4.out HB5.out)
      have HXB := Lib.hid hxb5
      clear t0 t1 t2 p0 p1 p2 a0 a1 a2 hw5 hxb5
      have t0 := cell_of_heap HM5.out.cell 0
      have t1 := cell_of_heap HM5.out.cell 1
      have t2 := cell_of_heap HM5.out.cell 2
      have tf : ∀ o, w5.frozen? ⟨t, o, none⟩ = false := free_of_heap HM5.out.cell
      have tf1 := tf 1
      have tf2 := tf 2
      have p0 := cell_of_heap HP5.out 0
      have p1 := cell_of_heap HP5.out 1
      have p2 := cell_of_heap HP5.out 2
      have x0 := cell_of_heap HX5.out 0
      have x1 := cell_of_heap HX5.out 1
      have x2 := cell_of_heap HX5.out 2
      have ltt5 : t < w5.heap.size := lt_of_heap HM5.out.cell
      have lx5 : xb < w5.heap.size := lt_of_heap HX5.out
      have HBW5 : Hid (Below B w0 w5) := Lib.hid (below_up (below_up HB3.out (by have := HBW.out; have := HSW.out; omega) HB4.out) (by have := HBW.out; have := lp4; omega) HB5.out)
      clear tf ltt4 hg4
      have HSA := Lib.hid (read_same HP.out HRR.out HN4.out HO4.out HU4.out HT4.out)
      have hrr5 : LAt w5 rr.A rr.l := ((HP.out.rin hx rr HRR.out).1).below (by have h9 := HBW5.out; rw [HBE.out] at h9; exact h9)
      have HR5 := Lib.hid hrr5
      have HSR : Hid (∀ q : BW w5, Calls Tryz.prog 22 #[.slice A4 n4 c4, .slice rr.A rr.l.length rr.c] q.w fun e w' => e = .returned (.bool true) ∧ Below q.w.heap.size q.w w') := Lib.hid (fun q => by
        have hh := HSA.out
        rw [HN4.out]
        exact sameRow_true us4 rr.l A4 rr.A c4 rr.c q.w ((hh.1.below HB5.out).below q.h) (HR5.out.below q.h) hh.2.1 hh.2.2)
      have q0 : ∀ q : BW w5, q.w.cell? ⟨xb, 0, none⟩ = some (.int .i64 0) := fun q => (q.h.cell (p := ⟨xb, 0, none⟩) lx5).trans x0
      have q2 : ∀ q : BW w5, q.w.cell? ⟨xb, 2, none⟩ = some (.slice A4 n4 c4) := fun q => (q.h.cell (p := ⟨xb, 2, none⟩) lx5).trans x2
      have qt : ∀ q : BW w5, q.w.cell? ⟨t, 1, none⟩ = some (.map (some b)) := fun q => (q.h.cell (p := ⟨t, 1, none⟩) ltt5).trans t1
      have lp5 : w.heap.size < w5.heap.size := lt_of_heap HP5.out
      have qp : ∀ q : BW w5, q.w.cell? ⟨w.heap.size, 1, none⟩ = some (.int .i64 hx) := fun q => (q.h.cell (p := ⟨w.heap.size, 1, none⟩) lp5).trans p1
      have ql : ∀ q : BW w5, (Instr.lookup 27 (.map (some b)) (.int .i64 (hx : Int)) false).run Tryz.prog q.w = .ok (.slice rr.A rr.l.length rr.c) q.w := fun q => look_row (HM5.out.now.chg (Chg.of_below (S := fun _ => False) q.h) id) HRR.out HHB.out
      have HKL := Lib.hid hk
      clear hrr5 hx1 hx2 hx3 hql hqe hk t0 t1 t2 tf1 tf2 p0 p1 p2 x0 x1 x2
      refine wp_region_bw (by kernel_rfl) (by kernel_rfl) ?_
      repeat (go_big_quiet_step ((go_at_call 22; exact bw_of (HSR.out _))))
      refine wpQuiet_nil ?_
      intro _ hw'
      obtain ⟨pq, hw''⟩ := hw'
      subst hw''
      go_wp2
      go_ret
      have hBB := HBW.out
      have hs5 := HB5.out.size
      have hbW : Below B w0 pq.w := below_up HBW5.out (by have := lp4; omega) pq.h
      exact law_done (HP.out.snoc (N' := N) (os' := []) (d := (⟨readS, (hx : Int), A, c, us⟩ : MDV)) (x := .read hx) ⟨rfl, rfl⟩ HLV.out.1 HL.out HP.out.link HP.out.rin HP.out.links) ((HM5.out.below pq.h).more (Nat.le_succ _)) hbW

set_option maxRecDepth 100000 in
set_option maxHeartbeats 6400000 in
theorem tried_read1 {w0 w : World} {B t k b : Nat} {dv : List MDV} {dm : List (MD (List VV))} {N : NMap} {o : Nat × NMap} {os : List (Nat × NMap)} {dsv ov : Value} {a : Addr} (hp : TrP w0 dv dm N (o :: os) k) (hm : TrM B w t k dv b N (o :: os) dsv ov) (hb : Below B w0 w) (hB : B = w0.heap.size) (hBw : B ≤ w.heap.size) (hE : ErrsOk w0 a) (hk : k ≤ 85) {dh : Int} {A : Option Addr} {c : Nat} {us : List VV} (hl : LAt w0 A us) (h0 : 0 ≤ dh) :
    Calls Tryz.prog 8 #[.pointer (some ⟨t, 0, none⟩), .agg #[.string ⟨#[114, 101, 97, 100]⟩, .int .i64 dh, .slice A us.length c]] w (DeedP B w0 t k) := by
  obtain ⟨i0, hi0, hz0, hz1, hz2⟩ := info_parts info_mdeed
  obtain ⟨Ad, cd, rfl⟩ := own_form hm.deeds
  obtain ⟨Ao, co, rfl⟩ := own_form hm.opens
  rw [hp.len1] at hm
  obtain ⟨nu, hnu⟩ : ∃ nu, nu = us.length := ⟨_, rfl⟩
  obtain ⟨q, hq⟩ : ∃ q, q = ((o :: os) : List (Nat × NMap)).length := ⟨_, rfl⟩
  rw [← hq] at hm
  obtain ⟨k1, hk1⟩ : ∃ k1, k1 = k + 1 := ⟨_, rfl⟩
  have hx1 : (k1 : Int) - 1 = (k : Int) := i64_pred2 hk1
  have hx2 : IntKind.i64.wrap ((k1 : Int) - 1) = (k : Int) := i64_pred3 hk1 (by omega)
  have hx3 : k < k1 := by omega
  have hql : q ≤ k := by rw [hq]; exact hp.opens
  have hqe : ((q : Int) == 0) = false := by
    have h0 : (q : Int) ≠ 0 := by rw [hq]; exact Int.ofNat_ne_zero.2 (Nat.succ_ne_zero _)
    exact beq_eq_false_iff_ne.2 h0
  have HK1 := Lib.hid hk1
  have HQ := Lib.hid hq
  have HP := Lib.hid hp
  have HM := Lib.hid hm
  have HB := Lib.hid hb
  have HBW := Lib.hid hBw
  have HBE := Lib.hid hB
  have HE := Lib.hid hE
  have HL := Lib.hid hl
  have HNU := Lib.hid hnu
  rw [← hnu]
  have HDH := Lib.hid h0
  clear h0
  have HOK : Hid ((runM [] c0M dm).2 ≠ []) := Lib.hid (by obtain ⟨s, ss, e, _⟩ := hp.links; rw [e]; simp)
  have HHD : Hid (∀ w', Below w.heap.size w w' → Calls Tryz.prog 9 #[.map (some b)] w' (HandlesP k N w')) := Lib.hid (fun w' hw => handles_any (hm.now.chg (Chg.of_below (S := fun _ => False) hw) id) (by omega) (fun x r hx => by have := hp.bound hx; omega))
  have c0 : w.cell? ⟨t, 0, none⟩ = some (.slice Ad k cd) := cell_of_heap hm.cell 0
  have c1 : w.cell? ⟨t, 1, none⟩ = some (.map (some b)) := cell_of_heap hm.cell 1
  have c2 : w.cell? ⟨t, 2, none⟩ = some (.slice Ao q co) := cell_of_heap hm.cell 2
  have ltt : t < w.heap.size := lt_of_heap hm.cell
  clear hp hm hb hB hBw hE hl hnu hq hk1
  go_enter Tryz.func8, Tryz.ntmps8
  go_wp2_with (go_at_call 9
               refine (HHD.out _ ((Below.refl _ _).alloc (Nat.le_refl _) _)).mono ?_
               rintro y w1 ⟨A1, n1, cc1, xs, rfl, hn1, hown1, hall1, hk1x, hb1⟩
               have HO1 := Lib.hid hown1
               have HA1 := Lib.hid hall1
               have HKX := Lib.hid hk1x
               have HB1 : Hid (Below w.heap.size w w1) := Lib.hid (up_below' ((Below.refl _ w).alloc (Nat.le_refl _) _) hb1)
               have HP1 : Hid (w1.heap[w.heap.size]? = some (.cells #[.string ⟨#[114, 101, 97, 100]⟩, .int .i64 dh, .slice A nu c] 34 (0, 0))) := Lib.hid (heap_below (heap_new w (.cells #[.string ⟨#[114, 101, 97, 100]⟩, .int .i64 dh, .slice A nu c] 34)) hb1)
               have HT1 : Hid (w1.heap[t]? = some (.cells #[.slice Ad k cd, .map (some b), .slice Ao q co] 30 (0, 0))) := Lib.hid (heap_below HM.out.cell HB1.out)
               have HM1 := Lib.hid (HM.out.below HB1.out)
               have hs1 : w.heap.size < w1.heap.size := lt_of_heap HP1.out
               have t0 := cell_of_heap HT1.out 0
               have t1 := cell_of_heap HT1.out 1
               have t2 := cell_of_heap HT1.out 2
               have tf := free_of_heap HT1.out 0
               have p0 := cell_of_heap HP1.out 0
               have p1 := cell_of_heap HP1.out 1
               have p2 := cell_of_heap HP1.out 2
               clear hall1 hk1x hb1 c0 c1 c2
               rcases rem_cases (xs := xs) HDH.out hn1 hown1 with hz | ⟨j, hx, gx, cx, hz, hj, hrm, hA1, hxm, hxc⟩
               all_goals try (subst hA1; have HXM := Lib.hid hxm; have pf := free_of_heap HP1.out 1; clear hxm)
               all_goals clear hn1 hown1)
  · go_ret
    exact Tr.stay HP.out HM.out HB.out HBW.out HB1.out
  · obtain ⟨wq, hwq⟩ : ∃ wq, wq = w1.setCell ⟨w.heap.size, 1, none⟩ (.int .i64 hx) := ⟨_, rfl⟩
    rw [← hwq]
    have hkq : Chg (fun z => z = w.heap.size) w1 wq := hwq ▸ chg_m w.heap.size 1 _
    have HKQ := Lib.hid hkq
    have hsq : w1.heap.size ≤ wq.heap.size := hkq.size
    have HBq : Hid (Below w.heap.size w wq) := Lib.hid (HB1.out.trans (hkq.below (Nat.le_of_lt hs1) (fun z hz => by omega)))
    have HMq := Lib.hid (HM.out.below HBq.out)
    have HTq : Hid (wq.heap[t]? = some (.cells #[.slice Ad k cd, .map (some b), .slice Ao q co] 30 (0, 0))) := Lib.hid (heap_below HM.out.cell HBq.out)
    have HPX : Hid (wq.heap[w.heap.size]? = some (.cells #[.string ⟨#[114, 101, 97, 100]⟩, .int .i64 hx, .slice A nu c] 34 (0, 0))) := Lib.hid (by rw [hwq, heap_setCell_at, HP1.out]; rfl)
    have hs1q : w.heap.size < wq.heap.size := lt_of_heap HPX.out
    clear t0 t1 t2 tf p0 p1 p2 hwq hkq hrm hxc hz hj pf hsq hs1
    have t0 := cell_of_heap HTq.out 0
    have t1 := cell_of_heap HTq.out 1
    have t2 := cell_of_heap HTq.out 2
    have tf := free_of_heap HTq.out 0
    have p0 := cell_of_heap HPX.out 0
    have p1 := cell_of_heap HPX.out 1
    have p2 := cell_of_heap HPX.out 2
    obtain ⟨rr, hrr⟩ := HA1.out hx HXM.out
    have HRR := Lib.hid hrr
    have HLV := Lib.hid ((HP.out.link hx).1 rr hrr)
    have HHB : Hid (hx ≤ 100000) := Lib.hid (by have := HP.out.bound hrr; omega)
    clear hrr
    have HDS : Hid (MDV.cells (⟨readS, (hx : Int), A, c, us⟩ : MDV) = [.string ⟨#[114, 101, 97, 100]⟩, .int .i64 hx, .slice A nu c]) := Lib.hid (by rw [HNU.out]; rfl)
    have hxk : k + 1 ≤ maxLen := Nat.le_trans (Nat.add_le_add_right hk 1) (by decide)
    have hxb : (k + 1) * 48 ≤ 140737488355328 := Nat.le_trans (Nat.mul_le_mul_right 48 (Nat.add_le_add_right hk 1)) (by decide)
    have hltt : t < wq.heap.size := lt_of_heap HTq.out
    have HBB : Hid (B ≤ (wq.alloc (.cells #[.string ⟨#[114, 101, 97, 100]⟩, .int .i64 hx, .slice A nu c] 34)).heap.size) := Lib.hid (by have := HBW.out; simp; omega)
    have HDO : Hid (wq.ownsRow B 34 3 (.slice Ad k cd) k (flat MDV.cells dv)) := Lib.hid (by have := HMq.out.deeds; rw [HP.out.len1] at this; exact this)
    go_region_law
      ((refine step_append_lies _ (by rfl) _ _ _ (by rfl) B 34 i0 _ 3 48 Tryz.underlying22 hi0 hz0 hz1 hz2 rfl (by decide) (.slice Ad k cd) k (flat MDV.cells dv) (by rfl) ((HDO.out.alloc _).drew)
          ⟨wq.heap.size, 0, none⟩ 1 1 [.string ⟨#[114, 101, 97, 100]⟩, .int .i64 hx, .slice A nu c] (by rfl) (by rfl) (World.news_of_block (cs := #[.string ⟨#[114, 101, 97, 100]⟩, .int .i64 hx, .slice A nu c]) (t := 34) (fr := (0, 0)) (heap_alloc_new wq _)) (by simp [Value.oneCell'])
          (by decide) hxk hxb HBB.out (wq.heap.size + 1) (by simp) ?_; intro gg cap w2 hown2 hgrow2 hat2 hlt2
        have HC2 : Hid (Chg (fun z => (Value.slice Ad k cd).ownBlock = some z) wq w2) := Lib.hid ((((Chg.refl _ wq).alloc _).drew).trans ((Chg.of_grown hgrow2).mono (fun z _ hz => hz.symm)))
        have E2 : Hid (w2.heap[t]? = wq.heap[t]?) := Lib.hid (HC2.out.block t hltt (own_ne HDO.out HTq.out (by decide)))
        have t0b : w2.cell? ⟨t, 0, none⟩ = some (.slice Ad k cd) := (World.cell?_of_block E2.out).trans t0
        have tfb : w2.frozen? ⟨t, 0, none⟩ = false := (World.frozen?_of_block E2.out).trans tf
        have HO2 := Lib.hid hown2
        have HAT2 := Lib.hid hat2
        clear hown2 hgrow2 hat2))
    all_goals
      obtain ⟨W3, hW3⟩ : ∃ W3, W3 = w2.setCell ⟨t, 0, none⟩ (.slice (some ⟨gg, 0, none⟩) (k + 1) cap) := ⟨_, rfl⟩
      rw [← hW3]
      have hW3' : W3 = w2.setCell ⟨t, 0, none⟩ (.slice (some ⟨gg, 0, none⟩) k1 cap) := by rw [HK1.out]; exact hW3
      have HM3 := Lib.hid (law_push (d := (⟨readS, (hx : Int), A, c, us⟩ : MDV)) HP.out HMq.out HK1.out HC2.out (by rw [HDS.out]; exact HO2.out) HAT2.out (Nat.le_succ _) hW3')
      have HB3 := Lib.hid (law_below HB.out HBW.out HBq.out HMq.out HC2.out hW3')
      have HME := Lib.hid (law_mem (d := (⟨readS, (hx : Int), A, c, us⟩ : MDV)) (x := (.read hx)) HP.out (⟨rfl, rfl⟩) (HLV.out.1) HL.out HBE.out HB3.out HE.out hk HK1.out HM3.out)
      have hs3 : wq.heap.size ≤ W3.heap.size := by rw [hW3]; simpa using HC2.out.size
      have HP3 : Hid (W3.heap[w.heap.size]? = some (.cells #[.string ⟨#[114, 101, 97, 100]⟩, .int .i64 hx, .slice A nu c] 34 (0, 0))) := Lib.hid (by
        rw [hW3, heap_setCell_ne _ _ _ _ _ (Nat.ne_of_gt ltt)]
        exact (HC2.out.block _ hs1q (fun e => absurd (own_lt HM.out.deeds e) (Nat.lt_irrefl _))).trans HPX.out)
      have u0 : W3.cell? ⟨t, 0, none⟩ = some (.slice (some ⟨gg, 0, none⟩) k1 cap) := cell_of_heap HM3.out.cell 0
      have HSW : Hid (w.heap.size < W3.heap.size) := Lib.hid (Nat.lt_of_lt_of_le hs1q hs3)
      clear hW3 hW3' t0 t1 t2 tf p0 p1 p2 t0b tfb hs3 hltt
      go_wp2_with (go_at_call 19
                   refine HME.out.mono ?_
                   rintro y w4 ⟨g4, cap4, A4, n4, c4, us4, rfl, a0', a1', a2, hn4, hown4, hul4, hout4, hg4, hb4⟩
                   have HN4 := Lib.hid hn4
                   have HO4 := Lib.hid hown4
                   have HU4 := Lib.hid hul4
                   have HT4 := Lib.hid hout4
                   have HB4 := Lib.hid hb4
                   have HM4 := Lib.hid (HM3.out.below hb4)
                   have HP4 := Lib.hid (heap_below HP3.out hb4)
                   have a0 : w4.cell? ⟨g4, k * 3, none⟩ = some (.int .i64 0) := a0'
                   have a1 : w4.cell? ⟨g4, k * 3 + 1, none⟩ = some (.int .i64 0) := a1'
                   have t0 := cell_of_heap HM4.out.cell 0
                   have t1 := cell_of_heap HM4.out.cell 1
                   have t2 := cell_of_heap HM4.out.cell 2
                   have p0 := cell_of_heap HP4.out 0
                   have p1 := cell_of_heap HP4.out 1
                   have p2 := cell_of_heap HP4.out 2
                   have ltt4 : t < w4.heap.size := lt_of_heap HM4.out.cell
                   have lp4 : w.heap.size < w4.heap.size := lt_of_heap HP4.out
                   clear u0 hn4 hown4 hul4 hout4 hb4 a0' a1')
      obtain ⟨w5, hw5⟩ : ∃ w5, w5 = w4.alloc (.cells #[.int .i64 0, .int .i64 0, .slice A4 n4 c4] 60) := ⟨_, rfl⟩
      rw [← hw5]
      obtain ⟨xb, hxb5⟩ : ∃ xb, xb = w4.heap.size := ⟨_, rfl⟩
      rw [← hxb5]
      have HB5 : Hid (Below w4.heap.size w4 w5) := Lib.hid (hw5 ▸ (Below.refl _ w4).alloc (Nat.le_refl _) _)
      have HX5 : Hid (w5.heap[xb]? = some (.cells #[.int .i64 0, .int .i64 0, .slice A4 n4 c4] 60 (0, 0))) := Lib.hid (by rw [hw5, hxb5]; exact heap_new w4 _)
      have HM5 := Lib.hid (HM4.out.below HB5.out)
      have HP5 := Lib.hid (heap_below HP4.out HB5.out)
      have HXB := Lib.hid hxb5
      clear t0 t1 t2 p0 p1 p2 a0 a1 a2 hw5 hxb5
      have t0 := cell_of_heap HM5.out.cell 0
      have t1 := cell_of_heap HM5.out.cell 1
      have t2 := cell_of_heap HM5.out.cell 2
      have tf : ∀ o, w5.frozen? ⟨t, o, none⟩ = false := free_of_heap HM5.out.cell
      have tf1 := tf 1
      have tf2 := tf 2
      have p0 := cell_of_heap HP5.out 0
      have p1 := cell_of_heap HP5.out 1
      have p2 := cell_of_heap HP5.out 2
      have x0 := cell_of_heap HX5.out 0
      have x1 := cell_of_heap HX5.out 1
      have x2 := cell_of_heap HX5.out 2
      have ltt5 : t < w5.heap.size := lt_of_heap HM5.out.cell
      have lx5 : xb < w5.heap.size := lt_of_heap HX5.out
      have HBW5 : Hid (Below B w0 w5) := Lib.hid (below_up (below_up HB3.out (by have := HBW.out; have := HSW.out; omega) HB4.out) (by have := HBW.out; have := lp4; omega) HB5.out)
      clear tf ltt4 hg4
      have HSA := Lib.hid (read_same HP.out HRR.out HN4.out HO4.out HU4.out HT4.out)
      have hrr5 : LAt w5 rr.A rr.l := ((HP.out.rin hx rr HRR.out).1).below (by have h9 := HBW5.out; rw [HBE.out] at h9; exact h9)
      have HR5 := Lib.hid hrr5
      have HSR : Hid (∀ q : BW w5, Calls Tryz.prog 22 #[.slice A4 n4 c4, .slice rr.A rr.l.length rr.c] q.w fun e w' => e = .returned (.bool true) ∧ Below q.w.heap.size q.w w') := Lib.hid (fun q => by
        have hh := HSA.out
        rw [HN4.out]
        exact sameRow_true us4 rr.l A4 rr.A c4 rr.c q.w ((hh.1.below HB5.out).below q.h) (HR5.out.below q.h) hh.2.1 hh.2.2)
      have q0 : ∀ q : BW w5, q.w.cell? ⟨xb, 0, none⟩ = some (.int .i64 0) := fun q => (q.h.cell (p := ⟨xb, 0, none⟩) lx5).trans x0
      have q2 : ∀ q : BW w5, q.w.cell? ⟨xb, 2, none⟩ = some (.slice A4 n4 c4) := fun q => (q.h.cell (p := ⟨xb, 2, none⟩) lx5).trans x2
      have qt : ∀ q : BW w5, q.w.cell? ⟨t, 1, none⟩ = some (.map (some b)) := fun q => (q.h.cell (p := ⟨t, 1, none⟩) ltt5).trans t1
      have lp5 : w.heap.size < w5.heap.size := lt_of_heap HP5.out
      have qp : ∀ q : BW w5, q.w.cell? ⟨w.heap.size, 1, none⟩ = some (.int .i64 hx) := fun q => (q.h.cell (p := ⟨w.heap.size, 1, none⟩) lp5).trans p1
      have ql : ∀ q : BW w5, (Instr.lookup 27 (.map (some b)) (.int .i64 (hx : Int)) false).run Tryz.prog q.w = .ok (.slice rr.A rr.l.length rr.c) q.w := fun q => look_row (HM5.out.now.chg (Chg.of_below (S := fun _ => False) q.h) id) HRR.out HHB.out
      have HKL := Lib.hid hk
      clear hrr5 hx1 hx2 hx3 hql hqe hk t0 t1 t2 tf1 tf2 p0 p1 p2 x0 x1 x2
      refine wp_region_bw (by kernel_rfl) (by kernel_rfl) ?_
      repeat (go_big_quiet_step ((go_at_call 22; exact bw_of (HSR.out _))))
      refine wpQuiet_nil ?_
      intro _ hw'
      obtain ⟨pq, hw''⟩ := hw'
      subst hw''
      go_wp2
      go_ret
      have hBB := HBW.out
      have hs5 := HB5.out.size
      have hbW : Below B w0 pq.w := below_up HBW5.out (by have := lp4; omega) pq.h
      exact law_done (HP.out.snoc (N' := N) (os' := (o :: os)) (d := (⟨readS, (hx : Int), A, c, us⟩ : MDV)) (x := .read hx) ⟨rfl, rfl⟩ HLV.out.1 HL.out HP.out.link HP.out.rin HP.out.links) ((HM5.out.below pq.h).more (Nat.le_succ _)) hbW

end Go.Proofs.YtffgkocokkhahaaGreatDoor
