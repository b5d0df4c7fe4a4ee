/-
  laws.deed: "begin".
-/
import Derived.Test.YtffgkocokkhahaaGreatDoorP07
import Derived.BigQuiet
import Derived.Deep.RegionLaw

/- laws.deed: "begin". -/
namespace Go.Proofs.YtffgkocokkhahaaGreatDoor
open Go.RowKit Go.Maps

theorem info_mdeed : (Tryz.prog.info? 34).map (fun i => (i.zero, i.size, i.bytes)) = some (some (.agg #[.string ⟨#[]⟩, .int .i64 0, .slice none 0 0]), 3, 48) := by kernel_rfl
theorem info_lmap : (Tryz.prog.info? 27).map (fun i => (i.zero, i.size, i.bytes)) = some (some (.map none), 1, 8) := by kernel_rfl

theorem law_push {w0 w w2 W : World} {B t k b : Nat} {dv : List MDV} {dm : List (MD (List VV))} {N : NMap} {os : List (Nat × NMap)} {Ad : Option Addr} {cd : Nat} {ov : Value} {d : MDV} (hp : TrP w0 dv dm N os k) (hm : TrM B w t k dv b N os (.slice Ad k cd) ov) {g cap k1 S : Nat} (hk1 : k1 = k + 1)
    (hc : Chg (fun z => (Value.slice Ad k cd).ownBlock = some z) w w2) (ho : w2.ownsRow B 34 3 (.slice (some ⟨g, 0, none⟩) (k + 1) cap) (k + 1) (flat MDV.cells dv ++ d.cells)) (hat : (Value.slice Ad k cd).ownBlock = some g ∨ g = S) (hS : w.heap.size ≤ S) (hW : W = w2.setCell ⟨t, 0, none⟩ (.slice (some ⟨g, 0, none⟩) k1 cap)) :
    TrM B W t k (dv ++ [d]) b N os (.slice (some ⟨g, 0, none⟩) k1 cap) ov := by
  subst hk1
  exact hm.push hc (by rw [hp.len1]; exact ho) (fun z hz => by
    have hz' : g = z := by simpa [Value.ownBlock] using hz
    subst hz'
    exact hat.imp id (fun e => by omega)) hW

theorem nxt_open (z : List VV) (c : MC (List VV)) (d : MD (List VV)) : (nxt z c d).2.length ≤ c.2.length + 1 := by
  cases d <;> simp [nxt] <;> omega
theorem runM_open (z : List VV) : ∀ (ds : List (MD (List VV))) (c : MC (List VV)), (runM z c ds).2.length ≤ c.2.length + ds.length
  | [], c => by simp [runM]
  | d :: ds, c => by
    have h1 := runM_open z ds (nxt z c d)
    have h2 := nxt_open z c d
    have e : runM z c (d :: ds) = runM z (nxt z c d) ds := rfl
    rw [e, List.length_cons]
    omega
theorem TrP.opens {w0 : World} {dv : List MDV} {dm : List (MD (List VV))} {N : NMap} {os : List (Nat × NMap)} {k : Nat} (h : TrP w0 dv dm N os k) : os.length ≤ k := by
  rw [h.links.length]
  have := runM_open [] dm c0M
  rw [h.len2] at this
  simpa [c0M] using this

theorem law_below {w0 w w1 w2 W : World} {B t k b : Nat} {dv : List MDV} {N : NMap} {os : List (Nat × NMap)} {dsv ov v : Value} (hb : Below B w0 w) (hBw : B ≤ w.heap.size) (hb1 : Below w.heap.size w w1) (hm : TrM B w1 t k dv b N os dsv ov) (hc : Chg (fun z => dsv.ownBlock = some z) w1 w2) (hW : W = w2.setCell ⟨t, 0, none⟩ v) : Below B w0 W := by
  subst hW
  have hk : Chg (fun z => z = t ∨ dsv.ownBlock = some z) w1 (w2.setCell ⟨t, 0, none⟩ v) := Chg.setCell (S := fun z => z = t ∨ dsv.ownBlock = some z) (hc.mono (fun _ _ e => .inr e)) (p := ⟨t, 0, none⟩) (.inl (.inl rfl)) _
  have h1 : Below B w0 w1 := hb.trans ⟨hb1.os, hb1.tape, hb1.output, hb1.size, fun i hi => hb1.block i (Nat.lt_of_lt_of_le hi hBw)⟩
  exact h1.trans (hk.below (Nat.le_trans hBw hb1.size) (fun z hz => hz.elim (fun e => e ▸ hm.tB) (fun e => own_ge hm.deeds e)))

/-- The last answer, of so many. -/
def MemLast1 (c : MC (List VV)) (x : MD (List VV)) (k k1 : Nat) (W : World) (y : Ending) (w' : World) : Prop :=
  ∃ g cap A2 n2 c2 us, y = .returned (.slice (some ⟨g, 0, none⟩) k1 cap) ∧ w'.cell? ⟨g, k * 3, none⟩ = some (.int .i64 ((ans [] c x).err : Nat)) ∧ w'.cell? ⟨g, k * 3 + 1, none⟩ = some (.int .i64 ((ans [] c x).h : Nat)) ∧ w'.cell? ⟨g, k * 3 + 2, none⟩ = some (.slice A2 n2 c2) ∧
    n2 = us.length ∧ w'.ownsRow W.heap.size 57 5 (.slice A2 n2 c2) n2 (flat VV.cells us) ∧ us.length = (ans [] c x).row.length ∧ (∀ (j : Nat) (v u : VV), (ans [] c x).row[j]? = some v → us[j]? = some u → OutOf v u) ∧ g < w'.heap.size ∧ Below W.heap.size W w'

theorem law_mem {w0 W : World} {B t k k1 b : Nat} {dv : List MDV} {dm : List (MD (List VV))} {N : NMap} {os : List (Nat × NMap)} {a : Addr} {ov : Value} (h : TrP w0 dv dm N os k) {d : MDV} {x : MD (List VV)} (hd : d.is x) (hok : okD (runM [] c0M dm) x) (hl : LAt w0 d.A d.us) (hB : B = w0.heap.size) (hbW : Below B w0 W) (hE : ErrsOk w0 a) (hk : k ≤ 85) (hk1 : k1 = k + 1)
    {A : Option Addr} {c : Nat} (hm : TrM B W t k (dv ++ [d]) b N os (.slice A k1 c) ov) : Calls Tryz.prog 19 #[.slice A k1 c] W (MemLast1 (runM [] c0M dm) x k k1 W) := by
  subst hk1
  refine mem_last h hd hok hl hB hbW hE hk ?_
  have := hm.deeds
  rw [show (dv ++ [d]).length = k + 1 by simp [h.len1]] at this
  exact this

theorem below_up {B : Nat} {w0 w w' : World} (h : Below B w0 w) (hB : B ≤ w.heap.size) (h2 : Below w.heap.size w w') : Below B w0 w' := h.trans ⟨h2.os, h2.tape, h2.output, h2.size, fun i hi => h2.block i (Nat.lt_of_lt_of_le hi hB)⟩

def CopyP2 (n : Nat) (N : NMap) (w5 : World) (y : Ending) (w' : World) : Prop := ∃ mb, y = .returned (.map (some mb)) ∧ mb = w5.heap.size ∧ MapAt w' mb n N ∧ Below w5.heap.size w5 w'

theorem copied_call {w5 W : World} {b n : Nat} {N : NMap} (h : MapAt w5 b n N) (hn : n ≤ 100000) (hW : W = w5 ∨ W = w5.drew) : Calls Tryz.prog 21 #[.map (some b)] W (CopyP2 n N w5) := by
  rcases hW with rfl | rfl
  · refine (copied_any h hn).mono ?_
    rintro y w' ⟨rfl, hm, hb⟩
    exact ⟨_, rfl, rfl, hm, hb⟩
  · have h' : MapAt w5.drew b n N := h.chg (Chg.refl (fun _ => False) w5).drew id
    refine (copied_any h' hn).mono ?_
    rintro y w' ⟨rfl, hm, hb⟩
    exact ⟨_, rfl, rfl, hm, ⟨hb.os, hb.tape, hb.output, hb.size, hb.block⟩⟩

/-- A deed that left the maps as they were, behind its note and answer. -/
theorem law_done {w0 W : World} {B t k b' : Nat} {dv : List MDV} {dm : List (MD (List VV))} {N' : NMap} {os' : List (Nat × NMap)} {dsv ov : Value} {d : MDV} {x : MD (List VV)} (hp : TrP w0 (dv ++ [d]) (dm ++ [x]) N' os' (k + 1)) (hm : TrM B W (k := k + 1) t (dv ++ [d]) b' N' os' dsv ov) (hb : Below B w0 W) : DeedP B w0 t k (.returned (.bool true)) W :=
  ⟨rfl, k + 1, Nat.le_refl _, dv ++ [d], dm ++ [x], b', N', os', dsv, ov, hp, hm, hb⟩

set_option maxRecDepth 100000 in
set_option maxHeartbeats 6400000 in
theorem tried_begin {w0 w : World} {B t k b : Nat} {dv : List MDV} {dm : List (MD (List VV))} {N : NMap} {os : List (Nat × NMap)} {dsv ov : Value} {a : Addr} (hp : TrP w0 dv dm N os k) (hm : TrM B w t k dv b N os dsv ov) (hb : Below B w0 w) (hB : B = w0.heap.size) (hBw : B ≤ w.heap.size) (hE : ErrsOk w0 a) (hk : k ≤ 85) {dh : Int} {A : Option Addr} {c : Nat} {us : List VV} (hl : LAt w0 A us) :
    Calls Tryz.prog 8 #[.pointer (some ⟨t, 0, none⟩), .agg #[.string ⟨#[98, 101, 103, 105, 110]⟩, .int .i64 dh, .slice A us.length c]] w (DeedP B w0 t k) := by
  obtain ⟨i0, hi0, hz0, hz1, hz2⟩ := info_parts info_mdeed
  obtain ⟨Ad, cd, rfl⟩ := own_form hm.deeds
  obtain ⟨Ao, co, rfl⟩ := own_form hm.opens
  rw [hp.len1] at hm
  obtain ⟨nu, hnu⟩ : ∃ nu, nu = us.length := ⟨_, rfl⟩
  obtain ⟨q, hq⟩ : ∃ q, q = os.length := ⟨_, rfl⟩
  rw [← hq] at hm
  obtain ⟨k1, hk1⟩ : ∃ k1, k1 = k + 1 := ⟨_, rfl⟩
  have hx1 : (k1 : Int) - 1 = (k : Int) := i64_pred2 hk1
  have hx2 : IntKind.i64.wrap ((k1 : Int) - 1) = (k : Int) := i64_pred3 hk1 (by omega)
  have hx3 : k < k1 := by omega
  have hql : q ≤ k := by rw [hq]; exact hp.opens
  have HK1 := Lib.hid hk1
  have HQ := Lib.hid hq
  have HP := Lib.hid hp
  have HM := Lib.hid hm
  have HB := Lib.hid hb
  have HBW := Lib.hid hBw
  have HBE := Lib.hid hB
  have HE := Lib.hid hE
  have HL := Lib.hid hl
  have HNU := Lib.hid hnu
  rw [← hnu]
  have HHD : Hid (∀ w', Below w.heap.size w w' → Calls Tryz.prog 9 #[.map (some b)] w' (HandlesP k N w')) := Lib.hid (fun w' hw => handles_any (hm.now.chg (Chg.of_below (S := fun _ => False) hw) id) (by omega) (fun x r hx => by have := hp.bound hx; omega))
  have c0 : w.cell? ⟨t, 0, none⟩ = some (.slice Ad k cd) := cell_of_heap hm.cell 0
  have c1 : w.cell? ⟨t, 1, none⟩ = some (.map (some b)) := cell_of_heap hm.cell 1
  have c2 : w.cell? ⟨t, 2, none⟩ = some (.slice Ao q co) := cell_of_heap hm.cell 2
  have ltt : t < w.heap.size := lt_of_heap hm.cell
  clear hp hm hb hB hBw hE hl hnu hq hk1
  go_enter Tryz.func8, Tryz.ntmps8
  go_wp2_with (go_at_call 9
               refine (HHD.out _ ((Below.refl _ _).alloc (Nat.le_refl _) _)).mono ?_
               rintro y w1 ⟨A1, n1, cc1, xs, rfl, hn1, hown1, hall1, hk1x, hb1⟩
               have HN1 := Lib.hid hn1
               have HO1 := Lib.hid hown1
               have HA1 := Lib.hid hall1
               have HKX := Lib.hid hk1x
               have HB1 : Hid (Below w.heap.size w w1) := Lib.hid (up_below' ((Below.refl _ w).alloc (Nat.le_refl _) _) hb1)
               have HP1 : Hid (w1.heap[w.heap.size]? = some (.cells #[.string ⟨#[98, 101, 103, 105, 110]⟩, .int .i64 dh, .slice A nu c] 34 (0, 0))) := Lib.hid (heap_below (heap_new w (.cells #[.string ⟨#[98, 101, 103, 105, 110]⟩, .int .i64 dh, .slice A nu c] 34)) hb1)
               have HT1 : Hid (w1.heap[t]? = some (.cells #[.slice Ad k cd, .map (some b), .slice Ao q co] 30 (0, 0))) := Lib.hid (heap_below HM.out.cell HB1.out)
               have HM1 := Lib.hid (HM.out.below HB1.out)
               have hs1 : w.heap.size < w1.heap.size := lt_of_heap HP1.out
               have t0 := cell_of_heap HT1.out 0
               have t1 := cell_of_heap HT1.out 1
               have t2 := cell_of_heap HT1.out 2
               have tf := free_of_heap HT1.out 0
               have p0 := cell_of_heap HP1.out 0
               have p1 := cell_of_heap HP1.out 1
               have p2 := cell_of_heap HP1.out 2
               clear hn1 hown1 hall1 hk1x hb1 c0 c1 c2)
  have HPX := HP1
  have HDS : Hid (MDV.cells (⟨beginS, dh, A, c, us⟩ : MDV) = [.string ⟨#[98, 101, 103, 105, 110]⟩, .int .i64 dh, .slice A nu c]) := Lib.hid (by rw [HNU.out]; rfl)
  have hxk : k + 1 ≤ maxLen := Nat.le_trans (Nat.add_le_add_right hk 1) (by decide)
  have hxb : (k + 1) * 48 ≤ 140737488355328 := Nat.le_trans (Nat.mul_le_mul_right 48 (Nat.add_le_add_right hk 1)) (by decide)
  have hltt : t < w1.heap.size := lt_of_heap HT1.out
  have HBB : Hid (B ≤ (w1.alloc (.cells #[.string ⟨#[98, 101, 103, 105, 110]⟩, .int .i64 dh, .slice A nu c] 34)).heap.size) := Lib.hid (by have := HBW.out; simp; omega)
  have HDO : Hid (w1.ownsRow B 34 3 (.slice Ad k cd) k (flat MDV.cells dv)) := Lib.hid (by have := HM1.out.deeds; rw [HP.out.len1] at this; exact this)
  go_region_law
    ((refine step_append_lies _ (by rfl) _ _ _ (by rfl) B 34 i0 _ 3 48 Tryz.underlying22 hi0 hz0 hz1 hz2 rfl (by decide) (.slice Ad k cd) k (flat MDV.cells dv) (by rfl) ((HDO.out.alloc _).drew)
        ⟨w1.heap.size, 0, none⟩ 1 1 [.string ⟨#[98, 101, 103, 105, 110]⟩, .int .i64 dh, .slice A nu c] (by rfl) (by rfl) (World.news_of_block (cs := #[.string ⟨#[98, 101, 103, 105, 110]⟩, .int .i64 dh, .slice A nu c]) (t := 34) (fr := (0, 0)) (heap_alloc_new w1 _)) (by simp [Value.oneCell'])
        (by decide) hxk hxb HBB.out (w1.heap.size + 1) (by simp) ?_; intro gg cap w2 hown2 hgrow2 hat2 hlt2
      have HC2 : Hid (Chg (fun z => (Value.slice Ad k cd).ownBlock = some z) w1 w2) := Lib.hid ((((Chg.refl _ w1).alloc _).drew).trans ((Chg.of_grown hgrow2).mono (fun z _ hz => hz.symm)))
      have E2 : Hid (w2.heap[t]? = w1.heap[t]?) := Lib.hid (HC2.out.block t hltt (own_ne HDO.out HT1.out (by decide)))
      have t0b : w2.cell? ⟨t, 0, none⟩ = some (.slice Ad k cd) := (World.cell?_of_block E2.out).trans t0
      have tfb : w2.frozen? ⟨t, 0, none⟩ = false := (World.frozen?_of_block E2.out).trans tf
      have HO2 := Lib.hid hown2
      have HAT2 := Lib.hid hat2
      clear hown2 hgrow2 hat2))
  all_goals
    obtain ⟨W3, hW3⟩ : ∃ W3, W3 = w2.setCell ⟨t, 0, none⟩ (.slice (some ⟨gg, 0, none⟩) (k + 1) cap) := ⟨_, rfl⟩
    rw [← hW3]
    have hW3' : W3 = w2.setCell ⟨t, 0, none⟩ (.slice (some ⟨gg, 0, none⟩) k1 cap) := by rw [HK1.out]; exact hW3
    have HM3 := Lib.hid (law_push (d := (⟨beginS, dh, A, c, us⟩ : MDV)) HP.out HM1.out HK1.out HC2.out (by rw [HDS.out]; exact HO2.out) HAT2.out (Nat.le_succ _) hW3')
    have HB3 := Lib.hid (law_below HB.out HBW.out HB1.out HM1.out HC2.out hW3')
    have HME := Lib.hid (law_mem (d := (⟨beginS, dh, A, c, us⟩ : MDV)) (x := .begin) HP.out (rfl) (trivial) HL.out HBE.out HB3.out HE.out hk HK1.out HM3.out)
    have hs3 : w1.heap.size ≤ W3.heap.size := by rw [hW3]; simpa using HC2.out.size
    have HP3 : Hid (W3.heap[w.heap.size]? = some (.cells #[.string ⟨#[98, 101, 103, 105, 110]⟩, .int .i64 dh, .slice A nu c] 34 (0, 0))) := Lib.hid (by
      rw [hW3, heap_setCell_ne _ _ _ _ _ (Nat.ne_of_gt ltt)]
      exact (HC2.out.block _ hs1 (fun e => absurd (own_lt HM.out.deeds e) (Nat.lt_irrefl _))).trans HPX.out)
    have u0 : W3.cell? ⟨t, 0, none⟩ = some (.slice (some ⟨gg, 0, none⟩) k1 cap) := cell_of_heap HM3.out.cell 0
    have HSW : Hid (w.heap.size < W3.heap.size) := Lib.hid (Nat.lt_of_lt_of_le hs1 hs3)
    clear hW3 hW3' t0 t1 t2 tf p0 p1 p2 t0b tfb hs3 hltt
    go_wp2_with (go_at_call 19
                 refine HME.out.mono ?_
                 rintro y w4 ⟨g4, cap4, A4, n4, c4, us4, rfl, a0', a1', a2, hn4, hown4, hul4, hout4, hg4, hb4⟩
                 have HN4 := Lib.hid hn4
                 have HO4 := Lib.hid hown4
                 have HU4 := Lib.hid hul4
                 have HT4 := Lib.hid hout4
                 have HB4 := Lib.hid hb4
                 have HM4 := Lib.hid (HM3.out.below hb4)
                 have HP4 := Lib.hid (heap_below HP3.out hb4)
                 have a0 : w4.cell? ⟨g4, k * 3, none⟩ = some (.int .i64 0) := a0'
                 have a1 : w4.cell? ⟨g4, k * 3 + 1, none⟩ = some (.int .i64 0) := a1'
                 have t0 := cell_of_heap HM4.out.cell 0
                 have t1 := cell_of_heap HM4.out.cell 1
                 have t2 := cell_of_heap HM4.out.cell 2
                 have p0 := cell_of_heap HP4.out 0
                 have p1 := cell_of_heap HP4.out 1
                 have p2 := cell_of_heap HP4.out 2
                 have ltt4 : t < w4.heap.size := lt_of_heap HM4.out.cell
                 have lp4 : w.heap.size < w4.heap.size := lt_of_heap HP4.out
                 clear u0 hn4 hown4 hul4 hout4 hb4 a0' a1')
    obtain ⟨w5, hw5⟩ : ∃ w5, w5 = w4.alloc (.cells #[.int .i64 0, .int .i64 0, .slice A4 n4 c4] 60) := ⟨_, rfl⟩
    rw [← hw5]
    obtain ⟨xb, hxb5⟩ : ∃ xb, xb = w4.heap.size := ⟨_, rfl⟩
    rw [← hxb5]
    have HB5 : Hid (Below w4.heap.size w4 w5) := Lib.hid (hw5 ▸ (Below.refl _ w4).alloc (Nat.le_refl _) _)
    have HX5 : Hid (w5.heap[xb]? = some (.cells #[.int .i64 0, .int .i64 0, .slice A4 n4 c4] 60 (0, 0))) := Lib.hid (by rw [hw5, hxb5]; exact heap_new w4 _)
    have HM5 := Lib.hid (HM4.out.below HB5.out)
    have HP5 := Lib.hid (heap_below HP4.out HB5.out)
    have HXB := Lib.hid hxb5
    clear t0 t1 t2 p0 p1 p2 a0 a1 a2 hw5 hxb5
    have t0 := cell_of_heap HM5.out.cell 0
    have t1 := cell_of_heap HM5.out.cell 1
    have t2 := cell_of_heap HM5.out.cell 2
    have tf : ∀ o, w5.frozen? ⟨t, o, none⟩ = false := free_of_heap HM5.out.cell
    have tf1 := tf 1
    have tf2 := tf 2
    have p0 := cell_of_heap HP5.out 0
    have p1 := cell_of_heap HP5.out 1
    have p2 := cell_of_heap HP5.out 2
    have x0 := cell_of_heap HX5.out 0
    have x1 := cell_of_heap HX5.out 1
    have x2 := cell_of_heap HX5.out 2
    have ltt5 : t < w5.heap.size := lt_of_heap HM5.out.cell
    have lx5 : xb < w5.heap.size := lt_of_heap HX5.out
    have HBW5 : Hid (Below B w0 w5) := Lib.hid (below_up (below_up HB3.out (by have := HBW.out; have := HSW.out; omega) HB4.out) (by have := HBW.out; have := lp4; omega) HB5.out)
    clear tf ltt4 hg4
    obtain ⟨i2, hi2, hy0, hy1, hy2⟩ := info_parts info_lmap
    have hqm : q + 1 ≤ maxLen := Nat.le_trans (Nat.add_le_add_right (Nat.le_trans hql hk) 1) (by decide)
    have hqb : (q + 1) * 8 ≤ 140737488355328 := Nat.le_trans (Nat.mul_le_mul_right 8 (Nat.add_le_add_right (Nat.le_trans hql hk) 1)) (by decide)
    have HOP : Hid (w5.ownsRow B 27 1 (.slice Ao q co) q (os.reverse.map mapV)) := Lib.hid (by have := HM5.out.opens; rw [← HQ.out] at this; exact this)
    have HKL := Lib.hid hk
    clear hx1 hx2 hx3 hql
    go_region_law
      (first
        | (go_simp; go_at_call 21
           refine (copied_call HM5.out.now (by have := HKL.out; omega) (by first | exact .inl rfl | exact .inr rfl)).mono ?_
           rintro y w6 ⟨mb, rfl, hmb, hmap6, hb6⟩
           have HMB := Lib.hid hmb
           have HMP6 := Lib.hid hmap6
           have HB6 := Lib.hid hb6
           have HM6 := Lib.hid (HM5.out.below hb6)
           have HOP6 := Lib.hid (own_below HOP.out hb6)
           have lt6 : t < w6.heap.size := lt_of_heap HM6.out.cell
           have t2c := cell_of_heap HM6.out.cell 2
           have tf2c := free_of_heap HM6.out.cell 2
           clear hmb hmap6 hb6)
        | (refine step_append_lies _ (by rfl) _ _ _ (by rfl) B 27 i2 _ 1 8 Tryz.underlying28 hi2 hy0 hy1 hy2 rfl (by decide) (.slice Ao q co) q (os.reverse.map mapV) (by rfl) (by first | exact HOP6.out.alloc _ | exact (HOP6.out.alloc _).drew)
             ⟨w6.heap.size, 0, none⟩ 1 1 [.map (some mb)] (by rfl) (by rfl) (World.news_of_block (cs := #[.map (some mb)]) (t := 27) (fr := (0, 0)) (heap_alloc_new w6 _)) (by simp [Value.oneCell'])
             (by decide) hqm hqb (by have := HBW.out; have := HB6.out.size; have := HB5.out.size; have := lp4; simp; omega) (w6.heap.size + 1) (by simp) ?_
           intro gg7 cap7 w7 hown7 hgrow7 hat7 hlt7
           have HC7 : Hid (Chg (fun z => (Value.slice Ao q co).ownBlock = some z) w6 w7) := Lib.hid (by first | exact ((Chg.refl _ w6).alloc _).trans ((Chg.of_grown hgrow7).mono (fun z _ hz => hz.symm)) | exact (((Chg.refl _ w6).alloc _).drew).trans ((Chg.of_grown hgrow7).mono (fun z _ hz => hz.symm)))
           have E7 : Hid (w7.heap[t]? = w6.heap[t]?) := Lib.hid (HC7.out.block t lt6 (own_ne HOP6.out HM6.out.cell (by decide)))
           have t2d : w7.cell? ⟨t, 2, none⟩ = some (.slice Ao q co) := (World.cell?_of_block E7.out).trans t2c
           have tf2d : w7.frozen? ⟨t, 2, none⟩ = false := (World.frozen?_of_block E7.out).trans tf2c
           have HO7 := Lib.hid hown7
           have HAT7 := Lib.hid hat7
           clear hown7 hgrow7 hat7))
    all_goals
      obtain ⟨W7, hW7⟩ : ∃ W7, W7 = w7.setCell ⟨t, 2, none⟩ (.slice (some ⟨gg7, 0, none⟩) (q + 1) cap7) := ⟨_, rfl⟩
      rw [← hW7]
      have hk7 : Chg (fun z => z = t ∨ (Value.slice Ao q co).ownBlock = some z) w6 W7 := hW7 ▸ Chg.setCell (S := fun z => z = t ∨ (Value.slice Ao q co).ownBlock = some z) (HC7.out.mono (fun _ _ e => .inr e)) (p := ⟨t, 2, none⟩) (.inl (.inl rfl)) _
      have x0b : W7.cell? ⟨xb, 0, none⟩ = some (.int .i64 0) := (World.cell?_of_block (hk7.block xb (by have := HB6.out.size; omega) (fun e => e.elim (fun e => absurd (heap_below HX5.out HB6.out) (by rw [e, HM6.out.cell]; intro h; injection h with h; injection h with _ h; exact absurd h (by decide))) (own_ne HOP6.out (heap_below HX5.out HB6.out) (by decide))))).trans (cell_of_heap (heap_below HX5.out HB6.out) 0)
      have HW7 := Lib.hid hW7
      have HK7 := Lib.hid hk7
      clear hW7 hk7 t2c tf2c t2d tf2d t0 t1 t2 p0 p1 p2 x0 x1 x2
      go_wp2
      go_ret
      have hBB := HBW.out
      have hs5 := HB5.out.size
      have hs6 := HB6.out.size
      have hq' := HQ.out
      subst hq'
      have hB6w : B ≤ w6.heap.size := by omega
      have hbW : Below B w0 W7 := (below_up HBW5.out (by omega) HB6.out).trans (HK7.out.below hB6w (fun z hz => hz.elim (fun e => e ▸ HM6.out.tB) (fun e => own_ge HOP6.out e)))
      have hbo := HM5.out.now.lt
      have HM7 := HM6.out.open_ (W := W7) HMP6.out (by rw [HMB.out]; omega) (by rw [HMB.out]; omega) (fun o ho => by have := (HM5.out.maps o ho).lt; rw [HMB.out]; omega) HC7.out HO7.out (fun z hz => by
        have hz' : gg7 = z := by simpa [Value.ownBlock] using hz
        subst hz'
        exact HAT7.out.imp id (fun e => by omega)) HW7.out
      exact law_done (HP.out.snoc (N' := N) (os' := (mb, N) :: os) (d := (⟨beginS, dh, A, c, us⟩ : MDV)) (x := .begin) rfl trivial HL.out HP.out.link HP.out.rin ⟨_, _, rfl, HP.out.link, HP.out.rin, HP.out.links⟩) (HM7.more (Nat.le_succ _)) hbW

end Go.Proofs.YtffgkocokkhahaaGreatDoor
