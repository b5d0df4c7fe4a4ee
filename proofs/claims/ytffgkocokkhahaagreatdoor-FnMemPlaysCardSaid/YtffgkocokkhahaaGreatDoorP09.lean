/-
  laws.deed: "commit". || laws.deed: "rollback".
-/
import Derived.Test.YtffgkocokkhahaaGreatDoorP08
import Derived.Test.YtffgkocokkhahaaGreatDoorP05
import Derived.BigQuiet
import Derived.Deep.RegionLaw

/- laws.deed: "commit". -/
namespace Go.Proofs.YtffgkocokkhahaaGreatDoor
open Go.RowKit Go.Maps

set_option maxRecDepth 100000 in
set_option maxHeartbeats 6400000 in
theorem tried_commit1 {w0 w : World} {B t k b : Nat} {dv : List MDV} {dm : List (MD (List VV))} {N : NMap} {o : Nat × NMap} {os : List (Nat × NMap)} {dsv ov : Value} {a : Addr} (hp : TrP w0 dv dm N (o :: os) k) (hm : TrM B w t k dv b N (o :: os) dsv ov) (hb : Below B w0 w) (hB : B = w0.heap.size) (hBw : B ≤ w.heap.size) (hE : ErrsOk w0 a) (hk : k ≤ 85) {dh : Int} {A : Option Addr} {c : Nat} {us : List VV} (hl : LAt w0 A us) :
    Calls Tryz.prog 8 #[.pointer (some ⟨t, 0, none⟩), .agg #[.string ⟨#[99, 111, 109, 109, 105, 116]⟩, .int .i64 dh, .slice A us.length c]] w (DeedP B w0 t k) := by
  obtain ⟨i0, hi0, hz0, hz1, hz2⟩ := info_parts info_mdeed
  obtain ⟨Ad, cd, rfl⟩ := own_form hm.deeds
  obtain ⟨Ao, co, rfl⟩ := own_form hm.opens
  rw [hp.len1] at hm
  obtain ⟨nu, hnu⟩ : ∃ nu, nu = us.length := ⟨_, rfl⟩
  obtain ⟨q, hq⟩ : ∃ q, q = ((o :: os) : List (Nat × NMap)).length := ⟨_, rfl⟩
  obtain ⟨k1, hk1⟩ : ∃ k1, k1 = k + 1 := ⟨_, rfl⟩
  have hx1 : (k1 : Int) - 1 = (k : Int) := i64_pred2 hk1
  have hx2 : IntKind.i64.wrap ((k1 : Int) - 1) = (k : Int) := i64_pred3 hk1 (by omega)
  have hx3 : k < k1 := by omega
  have hql : q ≤ k := by rw [hq]; exact hp.opens
  obtain ⟨qx, hqx⟩ : ∃ qx, q = qx + 1 := ⟨os.length, by rw [hq]; rfl⟩
  have hqo : qx = os.length := q_len hq hqx
  obtain ⟨hq0, hq1, hq2, hq4, hq5⟩ := q_facts hqx hql hk
  rw [← hq] at hm
  have hq3 : qx ≤ co := by have h1 := hm.opens; rw [← hq] at h1; have h1 := own_cap h1; rw [hqx] at h1; exact Nat.le_of_succ_le h1
  have HQX := Lib.hid hqx
  have HQO := Lib.hid hqo
  clear hqx hqo
  have HK1 := Lib.hid hk1
  have HQ := Lib.hid hq
  have HP := Lib.hid hp
  have HM := Lib.hid hm
  have HB := Lib.hid hb
  have HBW := Lib.hid hBw
  have HBE := Lib.hid hB
  have HE := Lib.hid hE
  have HL := Lib.hid hl
  have HNU := Lib.hid hnu
  rw [← hnu]
  have HCE : Hid ((runM [] c0M dm).2.isEmpty = false) := Lib.hid (by obtain ⟨s, ss, e, _⟩ := hp.links; rw [e]; rfl)
  have HHD : Hid (∀ w', Below w.heap.size w w' → Calls Tryz.prog 9 #[.map (some b)] w' (HandlesP k N w')) := Lib.hid (fun w' hw => handles_any (hm.now.chg (Chg.of_below (S := fun _ => False) hw) id) (by omega) (fun x r hx => by have := hp.bound hx; omega))
  have c0 : w.cell? ⟨t, 0, none⟩ = some (.slice Ad k cd) := cell_of_heap hm.cell 0
  have c1 : w.cell? ⟨t, 1, none⟩ = some (.map (some b)) := cell_of_heap hm.cell 1
  have c2 : w.cell? ⟨t, 2, none⟩ = some (.slice Ao q co) := cell_of_heap hm.cell 2
  have ltt : t < w.heap.size := lt_of_heap hm.cell
  clear hp hm hb hB hBw hE hl hnu hq hk1
  go_enter Tryz.func8, Tryz.ntmps8
  go_wp2_with (go_at_call 9
               refine (HHD.out _ ((Below.refl _ _).alloc (Nat.le_refl _) _)).mono ?_
               rintro y w1 ⟨A1, n1, cc1, xs, rfl, hn1, hown1, hall1, hk1x, hb1⟩
               have HN1 := Lib.hid hn1
               have HO1 := Lib.hid hown1
               have HA1 := Lib.hid hall1
               have HKX := Lib.hid hk1x
               have HB1 : Hid (Below w.heap.size w w1) := Lib.hid (up_below' ((Below.refl _ w).alloc (Nat.le_refl _) _) hb1)
               have HP1 : Hid (w1.heap[w.heap.size]? = some (.cells #[.string ⟨#[99, 111, 109, 109, 105, 116]⟩, .int .i64 dh, .slice A nu c] 34 (0, 0))) := Lib.hid (heap_below (heap_new w (.cells #[.string ⟨#[99, 111, 109, 109, 105, 116]⟩, .int .i64 dh, .slice A nu c] 34)) hb1)
               have HT1 : Hid (w1.heap[t]? = some (.cells #[.slice Ad k cd, .map (some b), .slice Ao q co] 30 (0, 0))) := Lib.hid (heap_below HM.out.cell HB1.out)
               have HM1 := Lib.hid (HM.out.below HB1.out)
               have hs1 : w.heap.size < w1.heap.size := lt_of_heap HP1.out
               have t0 := cell_of_heap HT1.out 0
               have t1 := cell_of_heap HT1.out 1
               have t2 := cell_of_heap HT1.out 2
               have tf := free_of_heap HT1.out 0
               have p0 := cell_of_heap HP1.out 0
               have p1 := cell_of_heap HP1.out 1
               have p2 := cell_of_heap HP1.out 2
               clear hn1 hown1 hall1 hk1x hb1 c0 c1 c2)
  have HPX := HP1
  have HDS : Hid (MDV.cells (⟨commitS, dh, A, c, us⟩ : MDV) = [.string ⟨#[99, 111, 109, 109, 105, 116]⟩, .int .i64 dh, .slice A nu c]) := Lib.hid (by rw [HNU.out]; rfl)
  have hxk : k + 1 ≤ maxLen := Nat.le_trans (Nat.add_le_add_right hk 1) (by decide)
  have hxb : (k + 1) * 48 ≤ 140737488355328 := Nat.le_trans (Nat.mul_le_mul_right 48 (Nat.add_le_add_right hk 1)) (by decide)
  have hltt : t < w1.heap.size := lt_of_heap HT1.out
  have HBB : Hid (B ≤ (w1.alloc (.cells #[.string ⟨#[99, 111, 109, 109, 105, 116]⟩, .int .i64 dh, .slice A nu c] 34)).heap.size) := Lib.hid (by have := HBW.out; simp; omega)
  have HDO : Hid (w1.ownsRow B 34 3 (.slice Ad k cd) k (flat MDV.cells dv)) := Lib.hid (by have := HM1.out.deeds; rw [HP.out.len1] at this; exact this)
  go_region_law
    ((refine step_append_lies _ (by rfl) _ _ _ (by rfl) B 34 i0 _ 3 48 Tryz.underlying22 hi0 hz0 hz1 hz2 rfl (by decide) (.slice Ad k cd) k (flat MDV.cells dv) (by rfl) ((HDO.out.alloc _).drew)
        ⟨w1.heap.size, 0, none⟩ 1 1 [.string ⟨#[99, 111, 109, 109, 105, 116]⟩, .int .i64 dh, .slice A nu c] (by rfl) (by rfl) (World.news_of_block (cs := #[.string ⟨#[99, 111, 109, 109, 105, 116]⟩, .int .i64 dh, .slice A nu c]) (t := 34) (fr := (0, 0)) (heap_alloc_new w1 _)) (by simp [Value.oneCell'])
        (by decide) hxk hxb HBB.out (w1.heap.size + 1) (by simp) ?_; intro gg cap w2 hown2 hgrow2 hat2 hlt2
      have HC2 : Hid (Chg (fun z => (Value.slice Ad k cd).ownBlock = some z) w1 w2) := Lib.hid ((((Chg.refl _ w1).alloc _).drew).trans ((Chg.of_grown hgrow2).mono (fun z _ hz => hz.symm)))
      have E2 : Hid (w2.heap[t]? = w1.heap[t]?) := Lib.hid (HC2.out.block t hltt (own_ne HDO.out HT1.out (by decide)))
      have t0b : w2.cell? ⟨t, 0, none⟩ = some (.slice Ad k cd) := (World.cell?_of_block E2.out).trans t0
      have tfb : w2.frozen? ⟨t, 0, none⟩ = false := (World.frozen?_of_block E2.out).trans tf
      have HO2 := Lib.hid hown2
      have HAT2 := Lib.hid hat2
      clear hown2 hgrow2 hat2))
  all_goals
    obtain ⟨W3, hW3⟩ : ∃ W3, W3 = w2.setCell ⟨t, 0, none⟩ (.slice (some ⟨gg, 0, none⟩) (k + 1) cap) := ⟨_, rfl⟩
    rw [← hW3]
    have hW3' : W3 = w2.setCell ⟨t, 0, none⟩ (.slice (some ⟨gg, 0, none⟩) k1 cap) := by rw [HK1.out]; exact hW3
    have HM3 := Lib.hid (law_push (d := (⟨commitS, dh, A, c, us⟩ : MDV)) HP.out HM1.out HK1.out HC2.out (by rw [HDS.out]; exact HO2.out) HAT2.out (Nat.le_succ _) hW3')
    have HB3 := Lib.hid (law_below HB.out HBW.out HB1.out HM1.out HC2.out hW3')
    have HME := Lib.hid (law_mem (d := (⟨commitS, dh, A, c, us⟩ : MDV)) (x := .commit) HP.out (rfl) (trivial) HL.out HBE.out HB3.out HE.out hk HK1.out HM3.out)
    have hs3 : w1.heap.size ≤ W3.heap.size := by rw [hW3]; simpa using HC2.out.size
    have HP3 : Hid (W3.heap[w.heap.size]? = some (.cells #[.string ⟨#[99, 111, 109, 109, 105, 116]⟩, .int .i64 dh, .slice A nu c] 34 (0, 0))) := Lib.hid (by
      rw [hW3, heap_setCell_ne _ _ _ _ _ (Nat.ne_of_gt ltt)]
      exact (HC2.out.block _ hs1 (fun e => absurd (own_lt HM.out.deeds e) (Nat.lt_irrefl _))).trans HPX.out)
    have u0 : W3.cell? ⟨t, 0, none⟩ = some (.slice (some ⟨gg, 0, none⟩) k1 cap) := cell_of_heap HM3.out.cell 0
    have HSW : Hid (w.heap.size < W3.heap.size) := Lib.hid (Nat.lt_of_lt_of_le hs1 hs3)
    clear hW3 hW3' t0 t1 t2 tf p0 p1 p2 t0b tfb hs3 hltt
    go_wp2_with (go_at_call 19
                 refine HME.out.mono ?_
                 rintro y w4 ⟨g4, cap4, A4, n4, c4, us4, rfl, a0', a1', a2, hn4, hown4, hul4, hout4, hg4, hb4⟩
                 have HN4 := Lib.hid hn4
                 have HO4 := Lib.hid hown4
                 have HU4 := Lib.hid hul4
                 have HT4 := Lib.hid hout4
                 have HB4 := Lib.hid hb4
                 have HM4 := Lib.hid (HM3.out.below hb4)
                 have HP4 := Lib.hid (heap_below HP3.out hb4)
                 have a0 : w4.cell? ⟨g4, k * 3, none⟩ = some (.int .i64 0) := by rw [show (ans [] (runM [] c0M dm) .commit).err = 0 by simp only [ans, HCE.out]; rfl] at a0'; exact a0'
                 have a1 : w4.cell? ⟨g4, k * 3 + 1, none⟩ = some (.int .i64 0) := a1'
                 have t0 := cell_of_heap HM4.out.cell 0
                 have t1 := cell_of_heap HM4.out.cell 1
                 have t2 := cell_of_heap HM4.out.cell 2
                 have p0 := cell_of_heap HP4.out 0
                 have tf2w := free_of_heap HM4.out.cell 2
                 have p1 := cell_of_heap HP4.out 1
                 have p2 := cell_of_heap HP4.out 2
                 have ltt4 : t < w4.heap.size := lt_of_heap HM4.out.cell
                 have lp4 : w.heap.size < w4.heap.size := lt_of_heap HP4.out
                 clear u0 hn4 hown4 hul4 hout4 hb4 a0' a1')
    go_ret
    obtain ⟨W6, hW6⟩ : ∃ W6, W6 = w4.setCell ⟨t, 2, none⟩ (.slice Ao qx co) := ⟨_, rfl⟩
    rw [← hW6]
    have hBB := HBW.out
    have hsw := HSW.out
    have hs4 := HB4.out.size
    have hb4 : Below B w0 w4 := below_up HB3.out (by omega) HB4.out
    have hk6 : Chg (fun z => z = t) w4 W6 := hW6 ▸ chg_m t 2 _
    have hb6 : Below B w0 W6 := hb4.trans (hk6.below (by omega) (fun z hz => hz ▸ HM4.out.tB))
    have hs6 := hk6.size
    have hWO : W6 = w4.setCell ⟨t, 2, none⟩ (.slice Ao os.length co) := by rw [← HQO.out]; exact hW6
    have hm4 := HM4.out
    rw [HQX.out] at hm4
    have HM6 := hm4.drop (by rw [← HQO.out]) hWO
    have hal : Below W6.heap.size W6 (W6.alloc (.cells #[.int .i64 0, .int .i64 0, .slice A4 n4 c4] 60)) := (Below.refl _ W6).alloc (Nat.le_refl _) _
    obtain ⟨s, ss, hc, _, _, hlk⟩ := HP.out.links
    exact law_done (HP.out.snoc (N' := N) (os' := os) (d := (⟨commitS, dh, A, c, us⟩ : MDV)) (x := .commit) rfl trivial HL.out HP.out.link HP.out.rin (by show LinkL w0 os (runM [] c0M dm).2.tail; rw [hc]; exact hlk)) ((HM6.below hal).more (Nat.le_succ _)) (below_up hb6 (by omega) hal)

set_option maxRecDepth 100000 in
set_option maxHeartbeats 6400000 in
theorem tried_commit0 {w0 w : World} {B t k b : Nat} {dv : List MDV} {dm : List (MD (List VV))} {N : NMap} {dsv ov : Value} {a : Addr} (hp : TrP w0 dv dm N [] k) (hm : TrM B w t k dv b N [] dsv ov) (hb : Below B w0 w) (hB : B = w0.heap.size) (hBw : B ≤ w.heap.size) (hE : ErrsOk w0 a) (hk : k ≤ 85) {dh : Int} {A : Option Addr} {c : Nat} {us : List VV} (hl : LAt w0 A us) :
    Calls Tryz.prog 8 #[.pointer (some ⟨t, 0, none⟩), .agg #[.string ⟨#[99, 111, 109, 109, 105, 116]⟩, .int .i64 dh, .slice A us.length c]] w (DeedP B w0 t k) := by
  obtain ⟨i0, hi0, hz0, hz1, hz2⟩ := info_parts info_mdeed
  obtain ⟨Ad, cd, rfl⟩ := own_form hm.deeds
  obtain ⟨Ao, co, rfl⟩ := own_form hm.opens
  rw [hp.len1] at hm
  obtain ⟨nu, hnu⟩ : ∃ nu, nu = us.length := ⟨_, rfl⟩
  obtain ⟨q, hq⟩ : ∃ q, q = ([] : List (Nat × NMap)).length := ⟨_, rfl⟩
  rw [← hq] at hm
  obtain ⟨k1, hk1⟩ : ∃ k1, k1 = k + 1 := ⟨_, rfl⟩
  have hx1 : (k1 : Int) - 1 = (k : Int) := i64_pred2 hk1
  have hx2 : IntKind.i64.wrap ((k1 : Int) - 1) = (k : Int) := i64_pred3 hk1 (by omega)
  have hx3 : k < k1 := by omega
  have hql : q ≤ k := by rw [hq]; exact hp.opens
  have hq0 : (q : Int) - 1 = -1 := by rw [hq]; rfl
  have hq1 : IntKind.i64.wrap ((q : Int) - 1) = -1 := by rw [hq0]; exact IntWalk.i64_in _ (by decide)
  have HK1 := Lib.hid hk1
  have HQ := Lib.hid hq
  have HP := Lib.hid hp
  have HM := Lib.hid hm
  have HB := Lib.hid hb
  have HBW := Lib.hid hBw
  have HBE := Lib.hid hB
  have HE := Lib.hid hE
  have HL := Lib.hid hl
  have HNU := Lib.hid hnu
  rw [← hnu]
  have HCE : Hid ((runM [] c0M dm).2 = []) := Lib.hid hp.links
  have HHD : Hid (∀ w', Below w.heap.size w w' → Calls Tryz.prog 9 #[.map (some b)] w' (HandlesP k N w')) := Lib.hid (fun w' hw => handles_any (hm.now.chg (Chg.of_below (S := fun _ => False) hw) id) (by omega) (fun x r hx => by have := hp.bound hx; omega))
  have c0 : w.cell? ⟨t, 0, none⟩ = some (.slice Ad k cd) := cell_of_heap hm.cell 0
  have c1 : w.cell? ⟨t, 1, none⟩ = some (.map (some b)) := cell_of_heap hm.cell 1
  have c2 : w.cell? ⟨t, 2, none⟩ = some (.slice Ao q co) := cell_of_heap hm.cell 2
  have ltt : t < w.heap.size := lt_of_heap hm.cell
  clear hp hm hb hB hBw hE hl hnu hq hk1
  go_enter Tryz.func8, Tryz.ntmps8
  go_wp2_with (go_at_call 9
               refine (HHD.out _ ((Below.refl _ _).alloc (Nat.le_refl _) _)).mono ?_
               rintro y w1 ⟨A1, n1, cc1, xs, rfl, hn1, hown1, hall1, hk1x, hb1⟩
               have HN1 := Lib.hid hn1
               have HO1 := Lib.hid hown1
               have HA1 := Lib.hid hall1
               have HKX := Lib.hid hk1x
               have HB1 : Hid (Below w.heap.size w w1) := Lib.hid (up_below' ((Below.refl _ w).alloc (Nat.le_refl _) _) hb1)
               have HP1 : Hid (w1.heap[w.heap.size]? = some (.cells #[.string ⟨#[99, 111, 109, 109, 105, 116]⟩, .int .i64 dh, .slice A nu c] 34 (0, 0))) := Lib.hid (heap_below (heap_new w (.cells #[.string ⟨#[99, 111, 109, 109, 105, 116]⟩, .int .i64 dh, .slice A nu c] 34)) hb1)
               have HT1 : Hid (w1.heap[t]? = some (.cells #[.slice Ad k cd, .map (some b), .slice Ao q co] 30 (0, 0))) := Lib.hid (heap_below HM.out.cell HB1.out)
               have HM1 := Lib.hid (HM.out.below HB1.out)
               have hs1 : w.heap.size < w1.heap.size := lt_of_heap HP1.out
               have t0 := cell_of_heap HT1.out 0
               have t1 := cell_of_heap HT1.out 1
               have t2 := cell_of_heap HT1.out 2
               have tf := free_of_heap HT1.out 0
               have p0 := cell_of_heap HP1.out 0
               have p1 := cell_of_heap HP1.out 1
               have p2 := cell_of_heap HP1.out 2
               clear hn1 hown1 hall1 hk1x hb1 c0 c1 c2)
  have HPX := HP1
  have HDS : Hid (MDV.cells (⟨commitS, dh, A, c, us⟩ : MDV) = [.string ⟨#[99, 111, 109, 109, 105, 116]⟩, .int .i64 dh, .slice A nu c]) := Lib.hid (by rw [HNU.out]; rfl)
  have hxk : k + 1 ≤ maxLen := Nat.le_trans (Nat.add_le_add_right hk 1) (by decide)
  have hxb : (k + 1) * 48 ≤ 140737488355328 := Nat.le_trans (Nat.mul_le_mul_right 48 (Nat.add_le_add_right hk 1)) (by decide)
  have hltt : t < w1.heap.size := lt_of_heap HT1.out
  have HBB : Hid (B ≤ (w1.alloc (.cells #[.string ⟨#[99, 111, 109, 109, 105, 116]⟩, .int .i64 dh, .slice A nu c] 34)).heap.size) := Lib.hid (by have := HBW.out; simp; omega)
  have HDO : Hid (w1.ownsRow B 34 3 (.slice Ad k cd) k (flat MDV.cells dv)) := Lib.hid (by have := HM1.out.deeds; rw [HP.out.len1] at this; exact this)
  go_region_law
    ((refine step_append_lies _ (by rfl) _ _ _ (by rfl) B 34 i0 _ 3 48 Tryz.underlying22 hi0 hz0 hz1 hz2 rfl (by decide) (.slice Ad k cd) k (flat MDV.cells dv) (by rfl) ((HDO.out.alloc _).drew)
        ⟨w1.heap.size, 0, none⟩ 1 1 [.string ⟨#[99, 111, 109, 109, 105, 116]⟩, .int .i64 dh, .slice A nu c] (by rfl) (by rfl) (World.news_of_block (cs := #[.string ⟨#[99, 111, 109, 109, 105, 116]⟩, .int .i64 dh, .slice A nu c]) (t := 34) (fr := (0, 0)) (heap_alloc_new w1 _)) (by simp [Value.oneCell'])
        (by decide) hxk hxb HBB.out (w1.heap.size + 1) (by simp) ?_; intro gg cap w2 hown2 hgrow2 hat2 hlt2
      have HC2 : Hid (Chg (fun z => (Value.slice Ad k cd).ownBlock = some z) w1 w2) := Lib.hid ((((Chg.refl _ w1).alloc _).drew).trans ((Chg.of_grown hgrow2).mono (fun z _ hz => hz.symm)))
      have E2 : Hid (w2.heap[t]? = w1.heap[t]?) := Lib.hid (HC2.out.block t hltt (own_ne HDO.out HT1.out (by decide)))
      have t0b : w2.cell? ⟨t, 0, none⟩ = some (.slice Ad k cd) := (World.cell?_of_block E2.out).trans t0
      have tfb : w2.frozen? ⟨t, 0, none⟩ = false := (World.frozen?_of_block E2.out).trans tf
      have HO2 := Lib.hid hown2
      have HAT2 := Lib.hid hat2
      clear hown2 hgrow2 hat2))
  all_goals
    obtain ⟨W3, hW3⟩ : ∃ W3, W3 = w2.setCell ⟨t, 0, none⟩ (.slice (some ⟨gg, 0, none⟩) (k + 1) cap) := ⟨_, rfl⟩
    rw [← hW3]
    have hW3' : W3 = w2.setCell ⟨t, 0, none⟩ (.slice (some ⟨gg, 0, none⟩) k1 cap) := by rw [HK1.out]; exact hW3
    have HM3 := Lib.hid (law_push (d := (⟨commitS, dh, A, c, us⟩ : MDV)) HP.out HM1.out HK1.out HC2.out (by rw [HDS.out]; exact HO2.out) HAT2.out (Nat.le_succ _) hW3')
    have HB3 := Lib.hid (law_below HB.out HBW.out HB1.out HM1.out HC2.out hW3')
    have HME := Lib.hid (law_mem (d := (⟨commitS, dh, A, c, us⟩ : MDV)) (x := .commit) HP.out (rfl) (trivial) HL.out HBE.out HB3.out HE.out hk HK1.out HM3.out)
    have hs3 : w1.heap.size ≤ W3.heap.size := by rw [hW3]; simpa using HC2.out.size
    have HP3 : Hid (W3.heap[w.heap.size]? = some (.cells #[.string ⟨#[99, 111, 109, 109, 105, 116]⟩, .int .i64 dh, .slice A nu c] 34 (0, 0))) := Lib.hid (by
      rw [hW3, heap_setCell_ne _ _ _ _ _ (Nat.ne_of_gt ltt)]
      exact (HC2.out.block _ hs1 (fun e => absurd (own_lt HM.out.deeds e) (Nat.lt_irrefl _))).trans HPX.out)
    have u0 : W3.cell? ⟨t, 0, none⟩ = some (.slice (some ⟨gg, 0, none⟩) k1 cap) := cell_of_heap HM3.out.cell 0
    have HSW : Hid (w.heap.size < W3.heap.size) := Lib.hid (Nat.lt_of_lt_of_le hs1 hs3)
    clear hW3 hW3' t0 t1 t2 tf p0 p1 p2 t0b tfb hs3 hltt
    go_wp2_with (go_at_call 19
                 refine HME.out.mono ?_
                 rintro y w4 ⟨g4, cap4, A4, n4, c4, us4, rfl, a0', a1', a2, hn4, hown4, hul4, hout4, hg4, hb4⟩
                 have HN4 := Lib.hid hn4
                 have HO4 := Lib.hid hown4
                 have HU4 := Lib.hid hul4
                 have HT4 := Lib.hid hout4
                 have HB4 := Lib.hid hb4
                 have HM4 := Lib.hid (HM3.out.below hb4)
                 have HP4 := Lib.hid (heap_below HP3.out hb4)
                 have a0 : w4.cell? ⟨g4, k * 3, none⟩ = some (.int .i64 1) := by rw [show (ans [] (runM [] c0M dm) .commit).err = 1 by simp [ans, HCE.out]] at a0'; exact a0'
                 have a1 : w4.cell? ⟨g4, k * 3 + 1, none⟩ = some (.int .i64 0) := a1'
                 have t0 := cell_of_heap HM4.out.cell 0
                 have t1 := cell_of_heap HM4.out.cell 1
                 have t2 := cell_of_heap HM4.out.cell 2
                 have p0 := cell_of_heap HP4.out 0
                 have p1 := cell_of_heap HP4.out 1
                 have p2 := cell_of_heap HP4.out 2
                 have ltt4 : t < w4.heap.size := lt_of_heap HM4.out.cell
                 have lp4 : w.heap.size < w4.heap.size := lt_of_heap HP4.out
                 clear u0 hn4 hown4 hul4 hout4 hb4 a0' a1')
    obtain ⟨w5, hw5⟩ : ∃ w5, w5 = w4.alloc (.cells #[.int .i64 1, .int .i64 0, .slice A4 n4 c4] 60) := ⟨_, rfl⟩
    rw [← hw5]
    obtain ⟨xb, hxb5⟩ : ∃ xb, xb = w4.heap.size := ⟨_, rfl⟩
    rw [← hxb5]
    have HB5 : Hid (Below w4.heap.size w4 w5) := Lib.hid (hw5 ▸ (Below.refl _ w4).alloc (Nat.le_refl _) _)
    have HX5 : Hid (w5.heap[xb]? = some (.cells #[.int .i64 1, .int .i64 0, .slice A4 n4 c4] 60 (0, 0))) := Lib.hid (by rw [hw5, hxb5]; exact heap_new w4 _)
    have HM5 := Lib.hid (HM4.out.below HB5.out)
    have HP5 := Lib.hid (heap_below HP4.out HB5.out)
    have HXB := Lib.hid hxb5
    clear t0 t1 t2 p0 p1 p2 a0 a1 a2 hw5 hxb5
    have t0 := cell_of_heap HM5.out.cell 0
    have t1 := cell_of_heap HM5.out.cell 1
    have t2 := cell_of_heap HM5.out.cell 2
    have tf : ∀ o, w5.frozen? ⟨t, o, none⟩ = false := free_of_heap HM5.out.cell
    have tf1 := tf 1
    have tf2 := tf 2
    have p0 := cell_of_heap HP5.out 0
    have p1 := cell_of_heap HP5.out 1
    have p2 := cell_of_heap HP5.out 2
    have x0 := cell_of_heap HX5.out 0
    have x1 := cell_of_heap HX5.out 1
    have x2 := cell_of_heap HX5.out 2
    have ltt5 : t < w5.heap.size := lt_of_heap HM5.out.cell
    have lx5 : xb < w5.heap.size := lt_of_heap HX5.out
    have HBW5 : Hid (Below B w0 w5) := Lib.hid (below_up (below_up HB3.out (by have := HBW.out; have := HSW.out; omega) HB4.out) (by have := HBW.out; have := lp4; omega) HB5.out)
    clear tf ltt4 hg4
    go_wp2
    go_ret
    exact law_done (HP.out.snoc (N' := N) (os' := []) (d := (⟨commitS, dh, A, c, us⟩ : MDV)) (x := .commit) rfl trivial HL.out (by have h1 := HP.out.link; have h2 : (nxt [] (runM [] c0M dm) .commit).1 = (runM [] c0M dm).1 := (by simp [nxt, HCE.out]); rw [h2]; exact h1) HP.out.rin (by show (runM [] c0M dm).2.tail = []; rw [HCE.out]; rfl)) (HM5.out.more (Nat.le_succ _)) HBW5.out

end Go.Proofs.YtffgkocokkhahaaGreatDoor

/- laws.deed: "rollback". -/
namespace Go.Proofs.YtffgkocokkhahaaGreatDoor
open Go.RowKit Go.Maps

set_option maxRecDepth 100000 in
set_option maxHeartbeats 6400000 in
theorem tried_rollback1 {w0 w : World} {B t k b : Nat} {dv : List MDV} {dm : List (MD (List VV))} {N : NMap} {o : Nat × NMap} {os : List (Nat × NMap)} {dsv ov : Value} {a : Addr} (hp : TrP w0 dv dm N (o :: os) k) (hm : TrM B w t k dv b N (o :: os) dsv ov) (hb : Below B w0 w) (hB : B = w0.heap.size) (hBw : B ≤ w.heap.size) (hE : ErrsOk w0 a) (hk : k ≤ 85) {dh : Int} {A : Option Addr} {c : Nat} {us : List VV} (hl : LAt w0 A us) :
    Calls Tryz.prog 8 #[.pointer (some ⟨t, 0, none⟩), .agg #[.string ⟨#[114, 111, 108, 108, 98, 97, 99, 107]⟩, .int .i64 dh, .slice A us.length c]] w (DeedP B w0 t k) := by
  obtain ⟨i0, hi0, hz0, hz1, hz2⟩ := info_parts info_mdeed
  obtain ⟨Ad, cd, rfl⟩ := own_form hm.deeds
  obtain ⟨Ao, co, rfl⟩ := own_form hm.opens
  rw [hp.len1] at hm
  obtain ⟨nu, hnu⟩ : ∃ nu, nu = us.length := ⟨_, rfl⟩
  obtain ⟨q, hq⟩ : ∃ q, q = ((o :: os) : List (Nat × NMap)).length := ⟨_, rfl⟩
  obtain ⟨k1, hk1⟩ : ∃ k1, k1 = k + 1 := ⟨_, rfl⟩
  have hx1 : (k1 : Int) - 1 = (k : Int) := i64_pred2 hk1
  have hx2 : IntKind.i64.wrap ((k1 : Int) - 1) = (k : Int) := i64_pred3 hk1 (by omega)
  have hx3 : k < k1 := by omega
  have hql : q ≤ k := by rw [hq]; exact hp.opens
  obtain ⟨qx, hqx⟩ : ∃ qx, q = qx + 1 := ⟨os.length, by rw [hq]; rfl⟩
  have hqo : qx = os.length := q_len hq hqx
  obtain ⟨hq0, hq1, hq2, hq4, hq5⟩ := q_facts hqx hql hk
  rw [← hq] at hm
  have hq3 : qx ≤ co := by have h1 := hm.opens; rw [← hq] at h1; have h1 := own_cap h1; rw [hqx] at h1; exact Nat.le_of_succ_le h1
  have HQX := Lib.hid hqx
  have HQO := Lib.hid hqo
  clear hqx hqo
  have HK1 := Lib.hid hk1
  have HQ := Lib.hid hq
  have HP := Lib.hid hp
  have HM := Lib.hid hm
  have HB := Lib.hid hb
  have HBW := Lib.hid hBw
  have HBE := Lib.hid hB
  have HE := Lib.hid hE
  have HL := Lib.hid hl
  have HNU := Lib.hid hnu
  rw [← hnu]
  have HCE : Hid ((runM [] c0M dm).2.isEmpty = false) := Lib.hid (by obtain ⟨s, ss, e, _⟩ := hp.links; rw [e]; rfl)
  have HHD : Hid (∀ w', Below w.heap.size w w' → Calls Tryz.prog 9 #[.map (some b)] w' (HandlesP k N w')) := Lib.hid (fun w' hw => handles_any (hm.now.chg (Chg.of_below (S := fun _ => False) hw) id) (by omega) (fun x r hx => by have := hp.bound hx; omega))
  have c0 : w.cell? ⟨t, 0, none⟩ = some (.slice Ad k cd) := cell_of_heap hm.cell 0
  have c1 : w.cell? ⟨t, 1, none⟩ = some (.map (some b)) := cell_of_heap hm.cell 1
  have c2 : w.cell? ⟨t, 2, none⟩ = some (.slice Ao q co) := cell_of_heap hm.cell 2
  have ltt : t < w.heap.size := lt_of_heap hm.cell
  clear hp hm hb hB hBw hE hl hnu hq hk1
  go_enter Tryz.func8, Tryz.ntmps8
  go_wp2_with (go_at_call 9
               refine (HHD.out _ ((Below.refl _ _).alloc (Nat.le_refl _) _)).mono ?_
               rintro y w1 ⟨A1, n1, cc1, xs, rfl, hn1, hown1, hall1, hk1x, hb1⟩
               have HN1 := Lib.hid hn1
               have HO1 := Lib.hid hown1
               have HA1 := Lib.hid hall1
               have HKX := Lib.hid hk1x
               have HB1 : Hid (Below w.heap.size w w1) := Lib.hid (up_below' ((Below.refl _ w).alloc (Nat.le_refl _) _) hb1)
               have HP1 : Hid (w1.heap[w.heap.size]? = some (.cells #[.string ⟨#[114, 111, 108, 108, 98, 97, 99, 107]⟩, .int .i64 dh, .slice A nu c] 34 (0, 0))) := Lib.hid (heap_below (heap_new w (.cells #[.string ⟨#[114, 111, 108, 108, 98, 97, 99, 107]⟩, .int .i64 dh, .slice A nu c] 34)) hb1)
               have HT1 : Hid (w1.heap[t]? = some (.cells #[.slice Ad k cd, .map (some b), .slice Ao q co] 30 (0, 0))) := Lib.hid (heap_below HM.out.cell HB1.out)
               have HM1 := Lib.hid (HM.out.below HB1.out)
               have hs1 : w.heap.size < w1.heap.size := lt_of_heap HP1.out
               have t0 := cell_of_heap HT1.out 0
               have t1 := cell_of_heap HT1.out 1
               have t2 := cell_of_heap HT1.out 2
               have tf := free_of_heap HT1.out 0
               have p0 := cell_of_heap HP1.out 0
               have p1 := cell_of_heap HP1.out 1
               have p2 := cell_of_heap HP1.out 2
               clear hn1 hown1 hall1 hk1x hb1 c0 c1 c2)
  have HPX := HP1
  have HDS : Hid (MDV.cells (⟨rollbackS, dh, A, c, us⟩ : MDV) = [.string ⟨#[114, 111, 108, 108, 98, 97, 99, 107]⟩, .int .i64 dh, .slice A nu c]) := Lib.hid (by rw [HNU.out]; rfl)
  have hxk : k + 1 ≤ maxLen := Nat.le_trans (Nat.add_le_add_right hk 1) (by decide)
  have hxb : (k + 1) * 48 ≤ 140737488355328 := Nat.le_trans (Nat.mul_le_mul_right 48 (Nat.add_le_add_right hk 1)) (by decide)
  have hltt : t < w1.heap.size := lt_of_heap HT1.out
  have HBB : Hid (B ≤ (w1.alloc (.cells #[.string ⟨#[114, 111, 108, 108, 98, 97, 99, 107]⟩, .int .i64 dh, .slice A nu c] 34)).heap.size) := Lib.hid (by have := HBW.out; simp; omega)
  have HDO : Hid (w1.ownsRow B 34 3 (.slice Ad k cd) k (flat MDV.cells dv)) := Lib.hid (by have := HM1.out.deeds; rw [HP.out.len1] at this; exact this)
  go_region_law
    ((refine step_append_lies _ (by rfl) _ _ _ (by rfl) B 34 i0 _ 3 48 Tryz.underlying22 hi0 hz0 hz1 hz2 rfl (by decide) (.slice Ad k cd) k (flat MDV.cells dv) (by rfl) ((HDO.out.alloc _).drew)
        ⟨w1.heap.size, 0, none⟩ 1 1 [.string ⟨#[114, 111, 108, 108, 98, 97, 99, 107]⟩, .int .i64 dh, .slice A nu c] (by rfl) (by rfl) (World.news_of_block (cs := #[.string ⟨#[114, 111, 108, 108, 98, 97, 99, 107]⟩, .int .i64 dh, .slice A nu c]) (t := 34) (fr := (0, 0)) (heap_alloc_new w1 _)) (by simp [Value.oneCell'])
        (by decide) hxk hxb HBB.out (w1.heap.size + 1) (by simp) ?_; intro gg cap w2 hown2 hgrow2 hat2 hlt2
      have HC2 : Hid (Chg (fun z => (Value.slice Ad k cd).ownBlock = some z) w1 w2) := Lib.hid ((((Chg.refl _ w1).alloc _).drew).trans ((Chg.of_grown hgrow2).mono (fun z _ hz => hz.symm)))
      have E2 : Hid (w2.heap[t]? = w1.heap[t]?) := Lib.hid (HC2.out.block t hltt (own_ne HDO.out HT1.out (by decide)))
      have t0b : w2.cell? ⟨t, 0, none⟩ = some (.slice Ad k cd) := (World.cell?_of_block E2.out).trans t0
      have tfb : w2.frozen? ⟨t, 0, none⟩ = false := (World.frozen?_of_block E2.out).trans tf
      have HO2 := Lib.hid hown2
      have HAT2 := Lib.hid hat2
      clear hown2 hgrow2 hat2))
  all_goals
    obtain ⟨W3, hW3⟩ : ∃ W3, W3 = w2.setCell ⟨t, 0, none⟩ (.slice (some ⟨gg, 0, none⟩) (k + 1) cap) := ⟨_, rfl⟩
    rw [← hW3]
    have hW3' : W3 = w2.setCell ⟨t, 0, none⟩ (.slice (some ⟨gg, 0, none⟩) k1 cap) := by rw [HK1.out]; exact hW3
    have HM3 := Lib.hid (law_push (d := (⟨rollbackS, dh, A, c, us⟩ : MDV)) HP.out HM1.out HK1.out HC2.out (by rw [HDS.out]; exact HO2.out) HAT2.out (Nat.le_succ _) hW3')
    have HB3 := Lib.hid (law_below HB.out HBW.out HB1.out HM1.out HC2.out hW3')
    have HME := Lib.hid (law_mem (d := (⟨rollbackS, dh, A, c, us⟩ : MDV)) (x := .rollback) HP.out (rfl) (trivial) HL.out HBE.out HB3.out HE.out hk HK1.out HM3.out)
    have hs3 : w1.heap.size ≤ W3.heap.size := by rw [hW3]; simpa using HC2.out.size
    have HP3 : Hid (W3.heap[w.heap.size]? = some (.cells #[.string ⟨#[114, 111, 108, 108, 98, 97, 99, 107]⟩, .int .i64 dh, .slice A nu c] 34 (0, 0))) := Lib.hid (by
      rw [hW3, heap_setCell_ne _ _ _ _ _ (Nat.ne_of_gt ltt)]
      exact (HC2.out.block _ hs1 (fun e => absurd (own_lt HM.out.deeds e) (Nat.lt_irrefl _))).trans HPX.out)
    have u0 : W3.cell? ⟨t, 0, none⟩ = some (.slice (some ⟨gg, 0, none⟩) k1 cap) := cell_of_heap HM3.out.cell 0
    have HSW : Hid (w.heap.size < W3.heap.size) := Lib.hid (Nat.lt_of_lt_of_le hs1 hs3)
    clear hW3 hW3' t0 t1 t2 tf p0 p1 p2 t0b tfb hs3 hltt
    go_wp2_with (go_at_call 19
                 refine HME.out.mono ?_
                 rintro y w4 ⟨g4, cap4, A4, n4, c4, us4, rfl, a0', a1', a2, hn4, hown4, hul4, hout4, hg4, hb4⟩
                 have HN4 := Lib.hid hn4
                 have HO4 := Lib.hid hown4
                 have HU4 := Lib.hid hul4
                 have HT4 := Lib.hid hout4
                 have HB4 := Lib.hid hb4
                 have HM4 := Lib.hid (HM3.out.below hb4)
                 have HP4 := Lib.hid (heap_below HP3.out hb4)
                 have a0 : w4.cell? ⟨g4, k * 3, none⟩ = some (.int .i64 0) := by rw [show (ans [] (runM [] c0M dm) .rollback).err = 0 by simp only [ans, HCE.out]; rfl] at a0'; exact a0'
                 have a1 : w4.cell? ⟨g4, k * 3 + 1, none⟩ = some (.int .i64 0) := a1'
                 have t0 := cell_of_heap HM4.out.cell 0
                 have t1 := cell_of_heap HM4.out.cell 1
                 have t2 := cell_of_heap HM4.out.cell 2
                 have p0 := cell_of_heap HP4.out 0
                 have p1 := cell_of_heap HP4.out 1
                 have p2 := cell_of_heap HP4.out 2
                 have ltt4 : t < w4.heap.size := lt_of_heap HM4.out.cell
                 have lp4 : w.heap.size < w4.heap.size := lt_of_heap HP4.out
                 clear u0 hn4 hown4 hul4 hout4 hb4 a0' a1')
    obtain ⟨w5, hw5⟩ : ∃ w5, w5 = w4.alloc (.cells #[.int .i64 0, .int .i64 0, .slice A4 n4 c4] 60) := ⟨_, rfl⟩
    rw [← hw5]
    obtain ⟨xb, hxb5⟩ : ∃ xb, xb = w4.heap.size := ⟨_, rfl⟩
    rw [← hxb5]
    have HB5 : Hid (Below w4.heap.size w4 w5) := Lib.hid (hw5 ▸ (Below.refl _ w4).alloc (Nat.le_refl _) _)
    have HX5 : Hid (w5.heap[xb]? = some (.cells #[.int .i64 0, .int .i64 0, .slice A4 n4 c4] 60 (0, 0))) := Lib.hid (by rw [hw5, hxb5]; exact heap_new w4 _)
    have HM5 := Lib.hid (HM4.out.below HB5.out)
    have HP5 := Lib.hid (heap_below HP4.out HB5.out)
    have HXB := Lib.hid hxb5
    clear t0 t1 t2 p0 p1 p2 a0 a1 a2 hw5 hxb5
    have t0 := cell_of_heap HM5.out.cell 0
    have t1 := cell_of_heap HM5.out.cell 1
    have t2 := cell_of_heap HM5.out.cell 2
    have tf : ∀ o, w5.frozen? ⟨t, o, none⟩ = false := free_of_heap HM5.out.cell
    have tf1 := tf 1
    have tf2 := tf 2
    have p0 := cell_of_heap HP5.out 0
    have p1 := cell_of_heap HP5.out 1
    have p2 := cell_of_heap HP5.out 2
    have x0 := cell_of_heap HX5.out 0
    have x1 := cell_of_heap HX5.out 1
    have x2 := cell_of_heap HX5.out 2
    have ltt5 : t < w5.heap.size := lt_of_heap HM5.out.cell
    have lx5 : xb < w5.heap.size := lt_of_heap HX5.out
    have HBW5 : Hid (Below B w0 w5) := Lib.hid (below_up (below_up HB3.out (by have := HBW.out; have := HSW.out; omega) HB4.out) (by have := HBW.out; have := lp4; omega) HB5.out)
    clear tf ltt4 hg4
    have HOP : Hid (w5.ownsRow B 27 1 (.slice Ao q co) q ((o :: os).reverse.map mapV)) := Lib.hid (by have := HM5.out.opens; rw [← HQ.out] at this; exact this)
    obtain ⟨go, cg, hgo, _, lgo⟩ := HOP.out.form (Nat.lt_of_le_of_lt (Nat.zero_le _) hq5)
    injection hgo with hgo _ hco
    subst hgo
    subst hco
    have om : w5.cell? ⟨go, qx, none⟩ = some (.map (some o.1)) := by
      rw [HOP.out.cellAt qx (by rw [Nat.mul_one]; exact hq5), List.reverse_cons, List.map_append, List.getElem?_append_right (by simp [HQO.out]), List.length_map, List.length_reverse, HQO.out, Nat.sub_self]
      rfl
    have gt : ¬ go = t := fun e => own_ne HOP.out HM5.out.cell (by decide) (by rw [e]; rfl)
    have tg : ¬ t = go := fun e => gt e.symm
    go_wp2
    go_ret
    obtain ⟨W7, hW7⟩ : ∃ W7, W7 = (w5.setCell ⟨t, 1, none⟩ (.map (some o.1))).setCell ⟨t, 2, none⟩ (.slice (some ⟨go, 0, none⟩) qx co) := ⟨_, rfl⟩
    rw [← hW7]
    have hBB := HBW.out
    have hs5 := HB5.out.size
    have hkk : Chg (fun z => z = t) w5 W7 := hW7 ▸ Chg.setCell (S := fun z => z = t) (chg_m t 1 _) (p := ⟨t, 2, none⟩) (.inl rfl) _
    have hbW : Below B w0 W7 := HBW5.out.trans (hkk.below (by omega) (fun z hz => hz ▸ HM5.out.tB))
    have hWO : W7 = (w5.setCell ⟨t, 1, none⟩ (.map (some o.1))).setCell ⟨t, 2, none⟩ (.slice (some ⟨go, 0, none⟩) os.length co) := by rw [← HQO.out]; exact hW7
    have HM7 := HM5.out.back (by rw [← HQO.out]; exact HQX.out) hWO
    obtain ⟨s, ss, hc, hl1, hr1, hlk⟩ := HP.out.links
    exact law_done (HP.out.snoc (N' := o.2) (os' := os) (d := (⟨rollbackS, dh, A, c, us⟩ : MDV)) (x := .rollback) rfl trivial HL.out (by show Link o.2 RV.l ((runM [] c0M dm).2.head?.getD (runM [] c0M dm).1); rw [hc]; exact hl1) hr1 (by show LinkL w0 os (runM [] c0M dm).2.tail; rw [hc]; exact hlk)) (HM7.more (Nat.le_succ _)) hbW

set_option maxRecDepth 100000 in
set_option maxHeartbeats 6400000 in
theorem tried_rollback0 {w0 w : World} {B t k b : Nat} {dv : List MDV} {dm : List (MD (List VV))} {N : NMap} {dsv ov : Value} {a : Addr} (hp : TrP w0 dv dm N [] k) (hm : TrM B w t k dv b N [] dsv ov) (hb : Below B w0 w) (hB : B = w0.heap.size) (hBw : B ≤ w.heap.size) (hE : ErrsOk w0 a) (hk : k ≤ 85) {dh : Int} {A : Option Addr} {c : Nat} {us : List VV} (hl : LAt w0 A us) :
    Calls Tryz.prog 8 #[.pointer (some ⟨t, 0, none⟩), .agg #[.string ⟨#[114, 111, 108, 108, 98, 97, 99, 107]⟩, .int .i64 dh, .slice A us.length c]] w (DeedP B w0 t k) := by
  obtain ⟨i0, hi0, hz0, hz1, hz2⟩ := info_parts info_mdeed
  obtain ⟨Ad, cd, rfl⟩ := own_form hm.deeds
  obtain ⟨Ao, co, rfl⟩ := own_form hm.opens
  rw [hp.len1] at hm
  obtain ⟨nu, hnu⟩ : ∃ nu, nu = us.length := ⟨_, rfl⟩
  obtain ⟨q, hq⟩ : ∃ q, q = ([] : List (Nat × NMap)).length := ⟨_, rfl⟩
  rw [← hq] at hm
  obtain ⟨k1, hk1⟩ : ∃ k1, k1 = k + 1 := ⟨_, rfl⟩
  have hx1 : (k1 : Int) - 1 = (k : Int) := i64_pred2 hk1
  have hx2 : IntKind.i64.wrap ((k1 : Int) - 1) = (k : Int) := i64_pred3 hk1 (by omega)
  have hx3 : k < k1 := by omega
  have hql : q ≤ k := by rw [hq]; exact hp.opens
  have hq0 : (q : Int) - 1 = -1 := by rw [hq]; rfl
  have hq1 : IntKind.i64.wrap ((q : Int) - 1) = -1 := by rw [hq0]; exact IntWalk.i64_in _ (by decide)
  have HK1 := Lib.hid hk1
  have HQ := Lib.hid hq
  have HP := Lib.hid hp
  have HM := Lib.hid hm
  have HB := Lib.hid hb
  have HBW := Lib.hid hBw
  have HBE := Lib.hid hB
  have HE := Lib.hid hE
  have HL := Lib.hid hl
  have HNU := Lib.hid hnu
  rw [← hnu]
  have HCE : Hid ((runM [] c0M dm).2 = []) := Lib.hid hp.links
  have HHD : Hid (∀ w', Below w.heap.size w w' → Calls Tryz.prog 9 #[.map (some b)] w' (HandlesP k N w')) := Lib.hid (fun w' hw => handles_any (hm.now.chg (Chg.of_below (S := fun _ => False) hw) id) (by omega) (fun x r hx => by have := hp.bound hx; omega))
  have c0 : w.cell? ⟨t, 0, none⟩ = some (.slice Ad k cd) := cell_of_heap hm.cell 0
  have c1 : w.cell? ⟨t, 1, none⟩ = some (.map (some b)) := cell_of_heap hm.cell 1
  have c2 : w.cell? ⟨t, 2, none⟩ = some (.slice Ao q co) := cell_of_heap hm.cell 2
  have ltt : t < w.heap.size := lt_of_heap hm.cell
  clear hp hm hb hB hBw hE hl hnu hq hk1
  go_enter Tryz.func8, Tryz.ntmps8
  go_wp2_with (go_at_call 9
               refine (HHD.out _ ((Below.refl _ _).alloc (Nat.le_refl _) _)).mono ?_
               rintro y w1 ⟨A1, n1, cc1, xs, rfl, hn1, hown1, hall1, hk1x, hb1⟩
               have HN1 := Lib.hid hn1
               have HO1 := Lib.hid hown1
               have HA1 := Lib.hid hall1
               have HKX := Lib.hid hk1x
               have HB1 : Hid (Below w.heap.size w w1) := Lib.hid (up_below' ((Below.refl _ w).alloc (Nat.le_refl _) _) hb1)
               have HP1 : Hid (w1.heap[w.heap.size]? = some (.cells #[.string ⟨#[114, 111, 108, 108, 98, 97, 99, 107]⟩, .int .i64 dh, .slice A nu c] 34 (0, 0))) := Lib.hid (heap_below (heap_new w (.cells #[.string ⟨#[114, 111, 108, 108, 98, 97, 99, 107]⟩, .int .i64 dh, .slice A nu c] 34)) hb1)
               have HT1 : Hid (w1.heap[t]? = some (.cells #[.slice Ad k cd, .map (some b), .slice Ao q co] 30 (0, 0))) := Lib.hid (heap_below HM.out.cell HB1.out)
               have HM1 := Lib.hid (HM.out.below HB1.out)
               have hs1 : w.heap.size < w1.heap.size := lt_of_heap HP1.out
               have t0 := cell_of_heap HT1.out 0
               have t1 := cell_of_heap HT1.out 1
               have t2 := cell_of_heap HT1.out 2
               have tf := free_of_heap HT1.out 0
               have p0 := cell_of_heap HP1.out 0
               have p1 := cell_of_heap HP1.out 1
               have p2 := cell_of_heap HP1.out 2
               clear hn1 hown1 hall1 hk1x hb1 c0 c1 c2)
  have HPX := HP1
  have HDS : Hid (MDV.cells (⟨rollbackS, dh, A, c, us⟩ : MDV) = [.string ⟨#[114, 111, 108, 108, 98, 97, 99, 107]⟩, .int .i64 dh, .slice A nu c]) := Lib.hid (by rw [HNU.out]; rfl)
  have hxk : k + 1 ≤ maxLen := Nat.le_trans (Nat.add_le_add_right hk 1) (by decide)
  have hxb : (k + 1) * 48 ≤ 140737488355328 := Nat.le_trans (Nat.mul_le_mul_right 48 (Nat.add_le_add_right hk 1)) (by decide)
  have hltt : t < w1.heap.size := lt_of_heap HT1.out
  have HBB : Hid (B ≤ (w1.alloc (.cells #[.string ⟨#[114, 111, 108, 108, 98, 97, 99, 107]⟩, .int .i64 dh, .slice A nu c] 34)).heap.size) := Lib.hid (by have := HBW.out; simp; omega)
  have HDO : Hid (w1.ownsRow B 34 3 (.slice Ad k cd) k (flat MDV.cells dv)) := Lib.hid (by have := HM1.out.deeds; rw [HP.out.len1] at this; exact this)
  go_region_law
    ((refine step_append_lies _ (by rfl) _ _ _ (by rfl) B 34 i0 _ 3 48 Tryz.underlying22 hi0 hz0 hz1 hz2 rfl (by decide) (.slice Ad k cd) k (flat MDV.cells dv) (by rfl) ((HDO.out.alloc _).drew)
        ⟨w1.heap.size, 0, none⟩ 1 1 [.string ⟨#[114, 111, 108, 108, 98, 97, 99, 107]⟩, .int .i64 dh, .slice A nu c] (by rfl) (by rfl) (World.news_of_block (cs := #[.string ⟨#[114, 111, 108, 108, 98, 97, 99, 107]⟩, .int .i64 dh, .slice A nu c]) (t := 34) (fr := (0, 0)) (heap_alloc_new w1 _)) (by simp [Value.oneCell'])
        (by decide) hxk hxb HBB.out (w1.heap.size + 1) (by simp) ?_; intro gg cap w2 hown2 hgrow2 hat2 hlt2
      have HC2 : Hid (Chg (fun z => (Value.slice Ad k cd).ownBlock = some z) w1 w2) := Lib.hid ((((Chg.refl _ w1).alloc _).drew).trans ((Chg.of_grown hgrow2).mono (fun z _ hz => hz.symm)))
      have E2 : Hid (w2.heap[t]? = w1.heap[t]?) := Lib.hid (HC2.out.block t hltt (own_ne HDO.out HT1.out (by decide)))
      have t0b : w2.cell? ⟨t, 0, none⟩ = some (.slice Ad k cd) := (World.cell?_of_block E2.out).trans t0
      have tfb : w2.frozen? ⟨t, 0, none⟩ = false := (World.frozen?_of_block E2.out).trans tf
      have HO2 := Lib.hid hown2
      have HAT2 := Lib.hid hat2
      clear hown2 hgrow2 hat2))
  all_goals
    obtain ⟨W3, hW3⟩ : ∃ W3, W3 = w2.setCell ⟨t, 0, none⟩ (.slice (some ⟨gg, 0, none⟩) (k + 1) cap) := ⟨_, rfl⟩
    rw [← hW3]
    have hW3' : W3 = w2.setCell ⟨t, 0, none⟩ (.slice (some ⟨gg, 0, none⟩) k1 cap) := by rw [HK1.out]; exact hW3
    have HM3 := Lib.hid (law_push (d := (⟨rollbackS, dh, A, c, us⟩ : MDV)) HP.out HM1.out HK1.out HC2.out (by rw [HDS.out]; exact HO2.out) HAT2.out (Nat.le_succ _) hW3')
    have HB3 := Lib.hid (law_below HB.out HBW.out HB1.out HM1.out HC2.out hW3')
    have HME := Lib.hid (law_mem (d := (⟨rollbackS, dh, A, c, us⟩ : MDV)) (x := .rollback) HP.out (rfl) (trivial) HL.out HBE.out HB3.out HE.out hk HK1.out HM3.out)
    have hs3 : w1.heap.size ≤ W3.heap.size := by rw [hW3]; simpa using HC2.out.size
    have HP3 : Hid (W3.heap[w.heap.size]? = some (.cells #[.string ⟨#[114, 111, 108, 108, 98, 97, 99, 107]⟩, .int .i64 dh, .slice A nu c] 34 (0, 0))) := Lib.hid (by
      rw [hW3, heap_setCell_ne _ _ _ _ _ (Nat.ne_of_gt ltt)]
      exact (HC2.out.block _ hs1 (fun e => absurd (own_lt HM.out.deeds e) (Nat.lt_irrefl _))).trans HPX.out)
    have u0 : W3.cell? ⟨t, 0, none⟩ = some (.slice (some ⟨gg, 0, none⟩) k1 cap) := cell_of_heap HM3.out.cell 0
    have HSW : Hid (w.heap.size < W3.heap.size) := Lib.hid (Nat.lt_of_lt_of_le hs1 hs3)
    clear hW3 hW3' t0 t1 t2 tf p0 p1 p2 t0b tfb hs3 hltt
    go_wp2_with (go_at_call 19
                 refine HME.out.mono ?_
                 rintro y w4 ⟨g4, cap4, A4, n4, c4, us4, rfl, a0', a1', a2, hn4, hown4, hul4, hout4, hg4, hb4⟩
                 have HN4 := Lib.hid hn4
                 have HO4 := Lib.hid hown4
                 have HU4 := Lib.hid hul4
                 have HT4 := Lib.hid hout4
                 have HB4 := Lib.hid hb4
                 have HM4 := Lib.hid (HM3.out.below hb4)
                 have HP4 := Lib.hid (heap_below HP3.out hb4)
                 have a0 : w4.cell? ⟨g4, k * 3, none⟩ = some (.int .i64 1) := by rw [show (ans [] (runM [] c0M dm) .rollback).err = 1 by simp [ans, HCE.out]] at a0'; exact a0'
                 have a1 : w4.cell? ⟨g4, k * 3 + 1, none⟩ = some (.int .i64 0) := a1'
                 have t0 := cell_of_heap HM4.out.cell 0
                 have t1 := cell_of_heap HM4.out.cell 1
                 have t2 := cell_of_heap HM4.out.cell 2
                 have p0 := cell_of_heap HP4.out 0
                 have p1 := cell_of_heap HP4.out 1
                 have p2 := cell_of_heap HP4.out 2
                 have ltt4 : t < w4.heap.size := lt_of_heap HM4.out.cell
                 have lp4 : w.heap.size < w4.heap.size := lt_of_heap HP4.out
                 clear u0 hn4 hown4 hul4 hout4 hb4 a0' a1')
    obtain ⟨w5, hw5⟩ : ∃ w5, w5 = w4.alloc (.cells #[.int .i64 1, .int .i64 0, .slice A4 n4 c4] 60) := ⟨_, rfl⟩
    rw [← hw5]
    obtain ⟨xb, hxb5⟩ : ∃ xb, xb = w4.heap.size := ⟨_, rfl⟩
    rw [← hxb5]
    have HB5 : Hid (Below w4.heap.size w4 w5) := Lib.hid (hw5 ▸ (Below.refl _ w4).alloc (Nat.le_refl _) _)
    have HX5 : Hid (w5.heap[xb]? = some (.cells #[.int .i64 1, .int .i64 0, .slice A4 n4 c4] 60 (0, 0))) := Lib.hid (by rw [hw5, hxb5]; exact heap_new w4 _)
    have HM5 := Lib.hid (HM4.out.below HB5.out)
    have HP5 := Lib.hid (heap_below HP4.out HB5.out)
    have HXB := Lib.hid hxb5
    clear t0 t1 t2 p0 p1 p2 a0 a1 a2 hw5 hxb5
    have t0 := cell_of_heap HM5.out.cell 0
    have t1 := cell_of_heap HM5.out.cell 1
    have t2 := cell_of_heap HM5.out.cell 2
    have tf : ∀ o, w5.frozen? ⟨t, o, none⟩ = false := free_of_heap HM5.out.cell
    have tf1 := tf 1
    have tf2 := tf 2
    have p0 := cell_of_heap HP5.out 0
    have p1 := cell_of_heap HP5.out 1
    have p2 := cell_of_heap HP5.out 2
    have x0 := cell_of_heap HX5.out 0
    have x1 := cell_of_heap HX5.out 1
    have x2 := cell_of_heap HX5.out 2
    have ltt5 : t < w5.heap.size := lt_of_heap HM5.out.cell
    have lx5 : xb < w5.heap.size := lt_of_heap HX5.out
    have HBW5 : Hid (Below B w0 w5) := Lib.hid (below_up (below_up HB3.out (by have := HBW.out; have := HSW.out; omega) HB4.out) (by have := HBW.out; have := lp4; omega) HB5.out)
    clear tf ltt4 hg4
    go_wp2
    go_ret
    exact law_done (HP.out.snoc (N' := N) (os' := []) (d := (⟨rollbackS, dh, A, c, us⟩ : MDV)) (x := .rollback) rfl trivial HL.out (by have h1 := HP.out.link; have h2 : (nxt [] (runM [] c0M dm) .rollback).1 = (runM [] c0M dm).1 := (by simp [nxt, HCE.out]); rw [h2]; exact h1) HP.out.rin (by show (runM [] c0M dm).2.tail = []; rw [HCE.out]; rfl)) (HM5.out.more (Nat.le_succ _)) HBW5.out

end Go.Proofs.YtffgkocokkhahaaGreatDoor
