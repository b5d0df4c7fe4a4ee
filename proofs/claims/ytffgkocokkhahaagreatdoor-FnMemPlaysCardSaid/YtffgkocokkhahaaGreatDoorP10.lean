/-
  laws.deed: "create". || laws.deed: "create" in a transaction. || laws.deed: "update", "delete" outside a transaction; "update".
-/
import Derived.Test.YtffgkocokkhahaaGreatDoorP08
import Derived.Test.YtffgkocokkhahaaGreatDoorP05
import Derived.BigQuiet
import Derived.Deep.RegionLaw

/- laws.deed: "create". -/
namespace Go.Proofs.YtffgkocokkhahaaGreatDoor
open Go.RowKit Go.Maps

theorem zero_row (w : World) : (zeroValue 32).run Tryz.prog w = .ok (.slice none 0 0) w := by kernel_rfl

set_option maxRecDepth 100000 in
theorem look_none {w : World} {b n x : Nat} {N : NMap} (h : MapAt w b n N) (hx : N x = none) (hx9 : x ≤ 100000) : (Instr.lookup 27 (.map (some b)) (.int .i64 (x : Int)) true).run Tryz.prog w = .ok (.tuple #[.slice none 0 0, .bool false]) w := by
  obtain ⟨D, h1, h2⟩ := h
  have hk : keyOf Tryz.prog 2 (.int .i64 (x : Int)) = some (hk x) := keyOf_int_mk Tryz.underlying2 (by simp [Lit.wf, IntKind.min, IntKind.max, IntKind.signed, IntKind.bits]; omega)
  have hh := h2.hasNot hx
  obtain ⟨v, ps, hrun, hv⟩ := h1.look_ok (t := 27) mapK Tryz.underlying27 (zero_row w) (zd := .held (.slice none 0 0)) (zp := []) rfl hk
  rw [Maps.atKey_of_not_has hh] at hv
  rw [hh] at hrun
  obtain ⟨A, n', c, rfl, e⟩ := rowR_inv hv
  injection e with e _
  injection e with e
  rw [← e] at hrun
  exact hrun

set_option maxRecDepth 100000 in
theorem keyN {x : Nat} (hx : x ≤ 100000) : keyOf Tryz.prog 2 (.int .i64 (x : Int)) = some (hk x) := keyOf_int_mk Tryz.underlying2 (by simp [Lit.wf, IntKind.min, IntKind.max, IntKind.signed, IntKind.bits]; omega)

set_option maxRecDepth 100000 in
set_option maxHeartbeats 6400000 in
theorem tried_create0 {w0 w : World} {B t k b : Nat} {dv : List MDV} {dm : List (MD (List VV))} {N : NMap} {dsv ov : Value} {a : Addr} (hp : TrP w0 dv dm N [] k) (hm : TrM B w t k dv b N [] dsv ov) (hb : Below B w0 w) (hB : B = w0.heap.size) (hBw : B ≤ w.heap.size) (hE : ErrsOk w0 a) (hk : k ≤ 85) {dh : Int} {A : Option Addr} {c : Nat} {us : List VV} (hl : LAt w0 A us) :
    Calls Tryz.prog 8 #[.pointer (some ⟨t, 0, none⟩), .agg #[.string ⟨#[99, 114, 101, 97, 116, 101]⟩, .int .i64 dh, .slice A us.length c]] w (DeedP B w0 t k) := by
  obtain ⟨i0, hi0, hz0, hz1, hz2⟩ := info_parts info_mdeed
  obtain ⟨Ad, cd, rfl⟩ := own_form hm.deeds
  obtain ⟨Ao, co, rfl⟩ := own_form hm.opens
  rw [hp.len1] at hm
  obtain ⟨nu, hnu⟩ : ∃ nu, nu = us.length := ⟨_, rfl⟩
  obtain ⟨q, hq⟩ : ∃ q, q = ([] : List (Nat × NMap)).length := ⟨_, rfl⟩
  rw [← hq] at hm
  obtain ⟨k1, hk1⟩ : ∃ k1, k1 = k + 1 := ⟨_, rfl⟩
  have hx1 : (k1 : Int) - 1 = (k : Int) := i64_pred2 hk1
  have hx2 : IntKind.i64.wrap ((k1 : Int) - 1) = (k : Int) := i64_pred3 hk1 (by omega)
  have hx3 : k < k1 := by omega
  have hql : q ≤ k := by rw [hq]; exact hp.opens
  have hq0 : ((q : Int) == 0) = true := by rw [hq]; rfl
  have HK1 := Lib.hid hk1
  have HQ := Lib.hid hq
  have HP := Lib.hid hp
  have HM := Lib.hid hm
  have HB := Lib.hid hb
  have HBW := Lib.hid hBw
  have HBE := Lib.hid hB
  have HE := Lib.hid hE
  have HL := Lib.hid hl
  have HNU := Lib.hid hnu
  rw [← hnu]
  have HHD : Hid (∀ w', Below w.heap.size w w' → Calls Tryz.prog 9 #[.map (some b)] w' (HandlesP k N w')) := Lib.hid (fun w' hw => handles_any (hm.now.chg (Chg.of_below (S := fun _ => False) hw) id) (by omega) (fun x r hx => by have := hp.bound hx; omega))
  have c0 : w.cell? ⟨t, 0, none⟩ = some (.slice Ad k cd) := cell_of_heap hm.cell 0
  have c1 : w.cell? ⟨t, 1, none⟩ = some (.map (some b)) := cell_of_heap hm.cell 1
  have c2 : w.cell? ⟨t, 2, none⟩ = some (.slice Ao q co) := cell_of_heap hm.cell 2
  have ltt : t < w.heap.size := lt_of_heap hm.cell
  clear hp hm hb hB hBw hE hl hnu hq hk1
  go_enter Tryz.func8, Tryz.ntmps8
  go_wp2_with (go_at_call 9
               refine (HHD.out _ ((Below.refl _ _).alloc (Nat.le_refl _) _)).mono ?_
               rintro y w1 ⟨A1, n1, cc1, xs, rfl, hn1, hown1, hall1, hk1x, hb1⟩
               have HN1 := Lib.hid hn1
               have HO1 := Lib.hid hown1
               have HA1 := Lib.hid hall1
               have HKX := Lib.hid hk1x
               have HB1 : Hid (Below w.heap.size w w1) := Lib.hid (up_below' ((Below.refl _ w).alloc (Nat.le_refl _) _) hb1)
               have HP1 : Hid (w1.heap[w.heap.size]? = some (.cells #[.string ⟨#[99, 114, 101, 97, 116, 101]⟩, .int .i64 dh, .slice A nu c] 34 (0, 0))) := Lib.hid (heap_below (heap_new w (.cells #[.string ⟨#[99, 114, 101, 97, 116, 101]⟩, .int .i64 dh, .slice A nu c] 34)) hb1)
               have HT1 : Hid (w1.heap[t]? = some (.cells #[.slice Ad k cd, .map (some b), .slice Ao q co] 30 (0, 0))) := Lib.hid (heap_below HM.out.cell HB1.out)
               have HM1 := Lib.hid (HM.out.below HB1.out)
               have hs1 : w.heap.size < w1.heap.size := lt_of_heap HP1.out
               have t0 := cell_of_heap HT1.out 0
               have t1 := cell_of_heap HT1.out 1
               have t2 := cell_of_heap HT1.out 2
               have tf := free_of_heap HT1.out 0
               have p0 := cell_of_heap HP1.out 0
               have p1 := cell_of_heap HP1.out 1
               have p2 := cell_of_heap HP1.out 2
               clear hn1 hown1 hall1 hk1x hb1 c0 c1 c2)
  go_ret
  exact Tr.stay HP.out HM.out HB.out HBW.out HB1.out

end Go.Proofs.YtffgkocokkhahaaGreatDoor

/- laws.deed: "create" in a transaction. -/
namespace Go.Proofs.YtffgkocokkhahaaGreatDoor
open Go.RowKit Go.Maps

set_option maxRecDepth 100000 in
set_option maxHeartbeats 6400000 in
theorem tried_create1 {w0 w : World} {B t k b : Nat} {dv : List MDV} {dm : List (MD (List VV))} {N : NMap} {o : Nat × NMap} {os : List (Nat × NMap)} {dsv ov : Value} {a : Addr} (hp : TrP w0 dv dm N (o :: os) k) (hm : TrM B w t k dv b N (o :: os) dsv ov) (hb : Below B w0 w) (hB : B = w0.heap.size) (hBw : B ≤ w.heap.size) (hE : ErrsOk w0 a) (hk : k ≤ 85) {dh : Int} {A : Option Addr} {c : Nat} {us : List VV} (hl : LAt w0 A us) (hr : MRow us) :
    Calls Tryz.prog 8 #[.pointer (some ⟨t, 0, none⟩), .agg #[.string ⟨#[99, 114, 101, 97, 116, 101]⟩, .int .i64 dh, .slice A us.length c]] w (DeedP B w0 t k) := by
  obtain ⟨i0, hi0, hz0, hz1, hz2⟩ := info_parts info_mdeed
  obtain ⟨Ad, cd, rfl⟩ := own_form hm.deeds
  obtain ⟨Ao, co, rfl⟩ := own_form hm.opens
  rw [hp.len1] at hm
  obtain ⟨nu, hnu⟩ : ∃ nu, nu = us.length := ⟨_, rfl⟩
  obtain ⟨q, hq⟩ : ∃ q, q = ((o :: os) : List (Nat × NMap)).length := ⟨_, rfl⟩
  obtain ⟨k1, hk1⟩ : ∃ k1, k1 = k + 1 := ⟨_, rfl⟩
  have hx1 : (k1 : Int) - 1 = (k : Int) := i64_pred2 hk1
  have hx2 : IntKind.i64.wrap ((k1 : Int) - 1) = (k : Int) := i64_pred3 hk1 (by omega)
  have hx3 : k < k1 := by omega
  have hql : q ≤ k := by rw [hq]; exact hp.opens
  obtain ⟨qx, hqx⟩ : ∃ qx, q = qx + 1 := ⟨os.length, by rw [hq]; rfl⟩
  have hqo : qx = os.length := q_len hq hqx
  obtain ⟨hq0, hq1, hq2, hq4, hq5⟩ := q_facts hqx hql hk
  rw [← hq] at hm
  have hq3 : qx ≤ co := by have h1 := hm.opens; rw [← hq] at h1; have h1 := own_cap h1; rw [hqx] at h1; exact Nat.le_of_succ_le h1
  have HQX := Lib.hid hqx
  have HQO := Lib.hid hqo
  clear hqx hqo
  have HK1 := Lib.hid hk1
  have HQ := Lib.hid hq
  have HP := Lib.hid hp
  have HM := Lib.hid hm
  have HB := Lib.hid hb
  have HBW := Lib.hid hBw
  have HBE := Lib.hid hB
  have HE := Lib.hid hE
  have HL := Lib.hid hl
  have HNU := Lib.hid hnu
  rw [← hnu]
  have HR := Lib.hid hr
  obtain ⟨hh, hhd⟩ : ∃ hh, hh = madeAt (runM [] c0M dm).1 := ⟨_, rfl⟩
  have HMK := Lib.hid (hp.link.made hp.fine.1 ⟨us, A, c⟩)
  have HHH := Lib.hid hhd
  have hh2 : ¬ ((hh : Int) < 2) := by have := HMK.out.1; rw [hhd]; omega
  have HNH : Hid (N hh = none) := Lib.hid (by rw [hhd]; exact HMK.out.2.1)
  have HHB : Hid (hh ≤ 100000) := Lib.hid (by
    have h1 := hp.lenc.1
    have h2 := hp.fine.1.free
    rw [hhd]
    unfold madeAt
    cases hc : (runM [] c0M dm).1.rcy.getLast? with
    | none => simp; omega
    | some y => have := (h2 y (List.mem_of_getLast? hc)).2; simp; omega)
  have HOK : Hid ((runM [] c0M dm).2 ≠ []) := Lib.hid (by obtain ⟨s, ss, e, _⟩ := hp.links; rw [e]; simp)
  have hqe : ((q : Int) == 0) = false := by
    have h0 : (q : Int) ≠ 0 := by rw [hq]; exact Int.ofNat_ne_zero.2 (Nat.succ_ne_zero _)
    exact beq_eq_false_iff_ne.2 h0
  clear hr hhd
  have HHD : Hid (∀ w', Below w.heap.size w w' → Calls Tryz.prog 9 #[.map (some b)] w' (HandlesP k N w')) := Lib.hid (fun w' hw => handles_any (hm.now.chg (Chg.of_below (S := fun _ => False) hw) id) (by omega) (fun x r hx => by have := hp.bound hx; omega))
  have c0 : w.cell? ⟨t, 0, none⟩ = some (.slice Ad k cd) := cell_of_heap hm.cell 0
  have c1 : w.cell? ⟨t, 1, none⟩ = some (.map (some b)) := cell_of_heap hm.cell 1
  have c2 : w.cell? ⟨t, 2, none⟩ = some (.slice Ao q co) := cell_of_heap hm.cell 2
  have ltt : t < w.heap.size := lt_of_heap hm.cell
  clear hp hm hb hB hBw hE hl hnu hq hk1
  go_enter Tryz.func8, Tryz.ntmps8
  go_wp2_with (go_at_call 9
               refine (HHD.out _ ((Below.refl _ _).alloc (Nat.le_refl _) _)).mono ?_
               rintro y w1 ⟨A1, n1, cc1, xs, rfl, hn1, hown1, hall1, hk1x, hb1⟩
               have HN1 := Lib.hid hn1
               have HO1 := Lib.hid hown1
               have HA1 := Lib.hid hall1
               have HKX := Lib.hid hk1x
               have HB1 : Hid (Below w.heap.size w w1) := Lib.hid (up_below' ((Below.refl _ w).alloc (Nat.le_refl _) _) hb1)
               have HP1 : Hid (w1.heap[w.heap.size]? = some (.cells #[.string ⟨#[99, 114, 101, 97, 116, 101]⟩, .int .i64 dh, .slice A nu c] 34 (0, 0))) := Lib.hid (heap_below (heap_new w (.cells #[.string ⟨#[99, 114, 101, 97, 116, 101]⟩, .int .i64 dh, .slice A nu c] 34)) hb1)
               have HT1 : Hid (w1.heap[t]? = some (.cells #[.slice Ad k cd, .map (some b), .slice Ao q co] 30 (0, 0))) := Lib.hid (heap_below HM.out.cell HB1.out)
               have HM1 := Lib.hid (HM.out.below HB1.out)
               have hs1 : w.heap.size < w1.heap.size := lt_of_heap HP1.out
               have t0 := cell_of_heap HT1.out 0
               have t1 := cell_of_heap HT1.out 1
               have t2 := cell_of_heap HT1.out 2
               have tf := free_of_heap HT1.out 0
               have p0 := cell_of_heap HP1.out 0
               have p1 := cell_of_heap HP1.out 1
               have p2 := cell_of_heap HP1.out 2
               clear hn1 hown1 hall1 hk1x hb1 c0 c1 c2)
  have HPX := HP1
  have HDS : Hid (MDV.cells (⟨mcreateS, dh, A, c, us⟩ : MDV) = [.string ⟨#[99, 114, 101, 97, 116, 101]⟩, .int .i64 dh, .slice A nu c]) := Lib.hid (by rw [HNU.out]; rfl)
  have hxk : k + 1 ≤ maxLen := Nat.le_trans (Nat.add_le_add_right hk 1) (by decide)
  have hxb : (k + 1) * 48 ≤ 140737488355328 := Nat.le_trans (Nat.mul_le_mul_right 48 (Nat.add_le_add_right hk 1)) (by decide)
  have hltt : t < w1.heap.size := lt_of_heap HT1.out
  have HBB : Hid (B ≤ (w1.alloc (.cells #[.string ⟨#[99, 114, 101, 97, 116, 101]⟩, .int .i64 dh, .slice A nu c] 34)).heap.size) := Lib.hid (by have := HBW.out; simp; omega)
  have HDO : Hid (w1.ownsRow B 34 3 (.slice Ad k cd) k (flat MDV.cells dv)) := Lib.hid (by have := HM1.out.deeds; rw [HP.out.len1] at this; exact this)
  go_region_law
    ((refine step_append_lies _ (by rfl) _ _ _ (by rfl) B 34 i0 _ 3 48 Tryz.underlying22 hi0 hz0 hz1 hz2 rfl (by decide) (.slice Ad k cd) k (flat MDV.cells dv) (by rfl) ((HDO.out.alloc _).drew)
        ⟨w1.heap.size, 0, none⟩ 1 1 [.string ⟨#[99, 114, 101, 97, 116, 101]⟩, .int .i64 dh, .slice A nu c] (by rfl) (by rfl) (World.news_of_block (cs := #[.string ⟨#[99, 114, 101, 97, 116, 101]⟩, .int .i64 dh, .slice A nu c]) (t := 34) (fr := (0, 0)) (heap_alloc_new w1 _)) (by simp [Value.oneCell'])
        (by decide) hxk hxb HBB.out (w1.heap.size + 1) (by simp) ?_; intro gg cap w2 hown2 hgrow2 hat2 hlt2
      have HC2 : Hid (Chg (fun z => (Value.slice Ad k cd).ownBlock = some z) w1 w2) := Lib.hid ((((Chg.refl _ w1).alloc _).drew).trans ((Chg.of_grown hgrow2).mono (fun z _ hz => hz.symm)))
      have E2 : Hid (w2.heap[t]? = w1.heap[t]?) := Lib.hid (HC2.out.block t hltt (own_ne HDO.out HT1.out (by decide)))
      have t0b : w2.cell? ⟨t, 0, none⟩ = some (.slice Ad k cd) := (World.cell?_of_block E2.out).trans t0
      have tfb : w2.frozen? ⟨t, 0, none⟩ = false := (World.frozen?_of_block E2.out).trans tf
      have HO2 := Lib.hid hown2
      have HAT2 := Lib.hid hat2
      clear hown2 hgrow2 hat2))
  all_goals
    obtain ⟨W3, hW3⟩ : ∃ W3, W3 = w2.setCell ⟨t, 0, none⟩ (.slice (some ⟨gg, 0, none⟩) (k + 1) cap) := ⟨_, rfl⟩
    rw [← hW3]
    have hW3' : W3 = w2.setCell ⟨t, 0, none⟩ (.slice (some ⟨gg, 0, none⟩) k1 cap) := by rw [HK1.out]; exact hW3
    have HM3 := Lib.hid (law_push (d := (⟨mcreateS, dh, A, c, us⟩ : MDV)) HP.out HM1.out HK1.out HC2.out (by rw [HDS.out]; exact HO2.out) HAT2.out (Nat.le_succ _) hW3')
    have HB3 := Lib.hid (law_below HB.out HBW.out HB1.out HM1.out HC2.out hW3')
    have HME := Lib.hid (law_mem (d := (⟨mcreateS, dh, A, c, us⟩ : MDV)) (x := (.create us)) HP.out (⟨rfl, rfl, HR.out⟩) (HOK.out) HL.out HBE.out HB3.out HE.out hk HK1.out HM3.out)
    have hs3 : w1.heap.size ≤ W3.heap.size := by rw [hW3]; simpa using HC2.out.size
    have HP3 : Hid (W3.heap[w.heap.size]? = some (.cells #[.string ⟨#[99, 114, 101, 97, 116, 101]⟩, .int .i64 dh, .slice A nu c] 34 (0, 0))) := Lib.hid (by
      rw [hW3, heap_setCell_ne _ _ _ _ _ (Nat.ne_of_gt ltt)]
      exact (HC2.out.block _ hs1 (fun e => absurd (own_lt HM.out.deeds e) (Nat.lt_irrefl _))).trans HPX.out)
    have u0 : W3.cell? ⟨t, 0, none⟩ = some (.slice (some ⟨gg, 0, none⟩) k1 cap) := cell_of_heap HM3.out.cell 0
    have HSW : Hid (w.heap.size < W3.heap.size) := Lib.hid (Nat.lt_of_lt_of_le hs1 hs3)
    clear hW3 hW3' t0 t1 t2 tf p0 p1 p2 t0b tfb hs3 hltt
    go_wp2_with (go_at_call 19
                 refine HME.out.mono ?_
                 rintro y w4 ⟨g4, cap4, A4, n4, c4, us4, rfl, a0', a1', a2, hn4, hown4, hul4, hout4, hg4, hb4⟩
                 have HN4 := Lib.hid hn4
                 have HO4 := Lib.hid hown4
                 have HU4 := Lib.hid hul4
                 have HT4 := Lib.hid hout4
                 have HB4 := Lib.hid hb4
                 have HM4 := Lib.hid (HM3.out.below hb4)
                 have HP4 := Lib.hid (heap_below HP3.out hb4)
                 have a0 : w4.cell? ⟨g4, k * 3, none⟩ = some (.int .i64 0) := a0'
                 have a1 : w4.cell? ⟨g4, k * 3 + 1, none⟩ = some (.int .i64 hh) := by rw [show (ans [] (runM [] c0M dm) (.create us)).h = hh from HHH.out.symm] at a1'; exact a1'
                 have t0 := cell_of_heap HM4.out.cell 0
                 have t1 := cell_of_heap HM4.out.cell 1
                 have t2 := cell_of_heap HM4.out.cell 2
                 have p0 := cell_of_heap HP4.out 0
                 have p1 := cell_of_heap HP4.out 1
                 have p2 := cell_of_heap HP4.out 2
                 have ltt4 : t < w4.heap.size := lt_of_heap HM4.out.cell
                 have lp4 : w.heap.size < w4.heap.size := lt_of_heap HP4.out
                 clear u0 hn4 hown4 hul4 hout4 hb4 a0' a1')
    obtain ⟨w5, hw5⟩ : ∃ w5, w5 = w4.alloc (.cells #[.int .i64 0, .int .i64 hh, .slice A4 n4 c4] 60) := ⟨_, rfl⟩
    rw [← hw5]
    obtain ⟨xb, hxb5⟩ : ∃ xb, xb = w4.heap.size := ⟨_, rfl⟩
    rw [← hxb5]
    have HB5 : Hid (Below w4.heap.size w4 w5) := Lib.hid (hw5 ▸ (Below.refl _ w4).alloc (Nat.le_refl _) _)
    have HX5 : Hid (w5.heap[xb]? = some (.cells #[.int .i64 0, .int .i64 hh, .slice A4 n4 c4] 60 (0, 0))) := Lib.hid (by rw [hw5, hxb5]; exact heap_new w4 _)
    have HM5 := Lib.hid (HM4.out.below HB5.out)
    have HP5 := Lib.hid (heap_below HP4.out HB5.out)
    have HXB := Lib.hid hxb5
    clear t0 t1 t2 p0 p1 p2 a0 a1 a2 hw5 hxb5
    have t0 := cell_of_heap HM5.out.cell 0
    have t1 := cell_of_heap HM5.out.cell 1
    have t2 := cell_of_heap HM5.out.cell 2
    have tf : ∀ o, w5.frozen? ⟨t, o, none⟩ = false := free_of_heap HM5.out.cell
    have tf1 := tf 1
    have tf2 := tf 2
    have p0 := cell_of_heap HP5.out 0
    have p1 := cell_of_heap HP5.out 1
    have p2 := cell_of_heap HP5.out 2
    have x0 := cell_of_heap HX5.out 0
    have x1 := cell_of_heap HX5.out 1
    have x2 := cell_of_heap HX5.out 2
    have ltt5 : t < w5.heap.size := lt_of_heap HM5.out.cell
    have lx5 : xb < w5.heap.size := lt_of_heap HX5.out
    have HBW5 : Hid (Below B w0 w5) := Lib.hid (below_up (below_up HB3.out (by have := HBW.out; have := HSW.out; omega) HB4.out) (by have := HBW.out; have := lp4; omega) HB5.out)
    clear tf ltt4 hg4
    have hlk0 := look_none HM5.out.now HNH.out HHB.out
    have hlk1 : ∀ n, (Instr.lookup 27 (.map (some b)) (.int .i64 (hh : Int)) true).run Tryz.prog (w5.drewN n) = .ok (.tuple #[.slice none 0 0, .bool false]) (w5.drewN n) := fun n => look_none (HM5.out.now.chg (Chg.of_below (S := fun _ => False) (below_drewN (Below.refl _ w5) n)) id) HNH.out HHB.out
    have hlk2 := hlk1 1
    have HKL := Lib.hid hk
    clear hx1 hx2 hx3 hql hq0 hq1 hq2 hq3 hq4 hq5 hqe hk
    go_quiet (fail)
    all_goals
      go_wp2_with fail
      obtain ⟨w6, hw6⟩ : ∃ w6, w6 = w5.drewN nq := ⟨_, rfl⟩
      rw [← hw6]
      have t1c : w6.cell? ⟨t, 1, none⟩ = some (.map (some b)) := by rw [hw6]; exact t1
      have x1c : w6.cell? ⟨xb, 1, none⟩ = some (.int .i64 hh) := by rw [hw6]; exact x1
      have p2c : w6.cell? ⟨w.heap.size, 2, none⟩ = some (.slice A nu c) := by rw [hw6]; exact p2
      have HM6 : Hid (TrM B w6 t k (dv ++ [(⟨mcreateS, dh, A, c, us⟩ : MDV)]) b N (o :: os) (.slice (some ⟨gg, 0, none⟩) k1 cap) (.slice Ao q co)) := Lib.hid (hw6 ▸ HM5.out.below (below_drewN (Below.refl _ w5) nq))
      have HX6 : Hid (w6.heap[xb]? = some (.cells #[.int .i64 0, .int .i64 hh, .slice A4 n4 c4] 60 (0, 0))) := Lib.hid (by rw [hw6]; exact HX5.out)
      have HW6 := Lib.hid hw6
      clear hw6 hlk0 hlk1 hlk2 t0 t1 t2 tf1 tf2 p0 p1 p2 x0 x1 x2 lx5 ltt5
      go_still_tail 8, (by kernel_rfl)
      obtain ⟨w7, hw7⟩ : ∃ w7, w7 = w6.drew := ⟨_, rfl⟩
      change wpList _ _ _ _ _ w6.drew
      rw [← hw7]
      have t1d : w7.cell? ⟨t, 1, none⟩ = some (.map (some b)) := by rw [hw7]; exact t1c
      have x1d : w7.cell? ⟨xb, 1, none⟩ = some (.int .i64 hh) := by rw [hw7]; exact x1c
      have p2d : w7.cell? ⟨w.heap.size, 2, none⟩ = some (.slice A nu c) := by rw [hw7]; exact p2c
      have HB7 : Hid (Below w6.heap.size w6 w7) := Lib.hid (hw7 ▸ (Below.refl _ w6).drew)
      have HM7 := Lib.hid (HM6.out.below HB7.out)
      obtain ⟨D7, hown7, hmi7⟩ := HM7.out.now
      have HMI := Lib.hid hmi7
      have HOW := Lib.hid hown7
      clear hw7 t1c x1c p2c hown7 hmi7
      go_wp2_with (at_mapUpdate
                   refine wpList_mapUpdate_own _ rfl _ _ _ 27 rfl 2 32 mapK Tryz.underlying27 rowR b _ _ rfl HOW.out (Nat.lt_of_le_of_lt HKL.out (by decide)) _ _ (hk hh) rfl rfl (keyN HHB.out) _ _ rfl ?_
                   intro w8 hown8 hg8
                   have HO8 := Lib.hid hown8
                   have HG8 : Hid (Chg (fun z => z = b) w7 w8) := Lib.hid ((Chg.of_grown hg8).mono (fun z _ e => Option.some.inj e))
                   have x0e : w8.cell? ⟨xb, 0, none⟩ = some (.int .i64 0) := (World.cell?_of_block (HG8.out.block xb (lt_of_heap (heap_below HX6.out HB7.out)) (fun e => HM7.out.now.ne (heap_below HX6.out HB7.out) e.symm))).trans (cell_of_heap (heap_below HX6.out HB7.out) 0)
                   clear hown8 hg8)
      go_wp2
      go_ret
      have hmap8 : MapAt w8 b (k + 1) (fun x => if x = hh then some ⟨us, A, c⟩ else N x) := ⟨_, HO8.out, by have := HMI.out.put HOW.out.isMap hh ⟨us, A, c⟩; rw [show (RV.mk us A c).val = .slice A nu c by rw [HNU.out]; rfl] at this; exact this⟩
      have HM8 := HM7.out.put (Nat.le_succ _) HG8.out hmap8
      have hBB := HBW.out
      have hs5 := HB5.out.size
      have hb6 : Below B w0 w6 := by rw [HW6.out]; exact below_up HBW5.out (by have := lp4; omega) (below_drewN (Below.refl _ w5) nq)
      have hs6 : w6.heap.size = w5.heap.size := by rw [HW6.out]; rfl
      have hb7 : Below B w0 w7 := below_up hb6 (by have := lp4; omega) HB7.out
      have hb8 : Below B w0 w8 := hb7.trans (HG8.out.below (by have := HB7.out.size; have := lp4; omega) (fun z hz => hz ▸ HM7.out.bB))
      obtain ⟨s, ss, hc, hl1, hr1, hlk⟩ := HP.out.links
      refine law_done (HP.out.snoc (N' := fun x => if x = hh then some ⟨us, A, c⟩ else N x) (os' := o :: os) (d := (⟨mcreateS, dh, A, c, us⟩ : MDV)) (x := .create us) ⟨rfl, rfl, HR.out⟩ HOK.out HL.out (by have := HMK.out.2.2; rw [← HHH.out] at this; exact this) (fun x r hx => ?_) HP.out.links) HM8 hb8
      dsimp only at hx
      split at hx
      · injection hx with hx
        subst hx
        exact ⟨HL.out, HR.out⟩
      · exact HP.out.rin x r hx

end Go.Proofs.YtffgkocokkhahaaGreatDoor

/- laws.deed: "update", "delete" outside a transaction; "update". -/
namespace Go.Proofs.YtffgkocokkhahaaGreatDoor
open Go.RowKit Go.Maps

theorem rem_at {dh : Int} {n : Nat} (h0 : 0 ≤ dh) (hn : 0 < n) : ∃ j : Nat, j < n ∧ dh.tmod (n : Int) = (j : Int) := by
  have h1 := Int.tmod_nonneg (n : Int) h0
  have h2 := Int.tmod_lt_of_pos dh (show (0 : Int) < (n : Int) by omega)
  exact ⟨(dh.tmod (n : Int)).toNat, by omega, by omega⟩

theorem rem_cases {w1 : World} {B n1 cc1 : Nat} {A1 : Option Addr} {dh : Int} {xs : List Nat} (h0 : 0 ≤ dh) (hn1 : n1 = xs.length) (ho : w1.ownsRow B 2 1 (.slice A1 n1 cc1) n1 (xs.map natV)) :
    ((n1 : Int) == 0) = true ∨ ∃ j hx gx cx, ((n1 : Int) == 0) = false ∧ j < n1 ∧ dh.tmod (n1 : Int) = ((j : Nat) : Int) ∧ A1 = some ⟨gx, 0, none⟩ ∧ hx ∈ xs ∧ w1.cell? ⟨gx, j, none⟩ = some (.int .i64 ((hx : Nat) : Int)) ∧ cx = cc1 := by
  rcases Nat.eq_zero_or_pos n1 with hz | hz
  · left
    rw [hz]
    rfl
  · right
    obtain ⟨j, hj, hrm⟩ := rem_at h0 hz
    obtain ⟨gx, cx, hA, _, _⟩ := ho.form hz
    injection hA with hA _ _
    have hjx : j < xs.length := by omega
    refine ⟨j, xs[j], gx, cc1, beq_eq_false_iff_ne.2 (by omega), hj, hrm, hA, List.getElem_mem _, ?_, rfl⟩
    subst hA
    rw [ho.cellAt j (by omega), List.getElem?_map, List.getElem?_eq_getElem hjx]
    rfl

set_option maxRecDepth 100000 in
set_option maxHeartbeats 6400000 in
theorem tried_update0 {w0 w : World} {B t k b : Nat} {dv : List MDV} {dm : List (MD (List VV))} {N : NMap} {dsv ov : Value} {a : Addr} (hp : TrP w0 dv dm N [] k) (hm : TrM B w t k dv b N [] dsv ov) (hb : Below B w0 w) (hB : B = w0.heap.size) (hBw : B ≤ w.heap.size) (hE : ErrsOk w0 a) (hk : k ≤ 85) {dh : Int} {A : Option Addr} {c : Nat} {us : List VV} (hl : LAt w0 A us) (h0 : 0 ≤ dh) :
    Calls Tryz.prog 8 #[.pointer (some ⟨t, 0, none⟩), .agg #[.string ⟨#[117, 112, 100, 97, 116, 101]⟩, .int .i64 dh, .slice A us.length c]] w (DeedP B w0 t k) := by
  obtain ⟨i0, hi0, hz0, hz1, hz2⟩ := info_parts info_mdeed
  obtain ⟨Ad, cd, rfl⟩ := own_form hm.deeds
  obtain ⟨Ao, co, rfl⟩ := own_form hm.opens
  rw [hp.len1] at hm
  obtain ⟨nu, hnu⟩ : ∃ nu, nu = us.length := ⟨_, rfl⟩
  obtain ⟨q, hq⟩ : ∃ q, q = ([] : List (Nat × NMap)).length := ⟨_, rfl⟩
  rw [← hq] at hm
  obtain ⟨k1, hk1⟩ : ∃ k1, k1 = k + 1 := ⟨_, rfl⟩
  have hx1 : (k1 : Int) - 1 = (k : Int) := i64_pred2 hk1
  have hx2 : IntKind.i64.wrap ((k1 : Int) - 1) = (k : Int) := i64_pred3 hk1 (by omega)
  have hx3 : k < k1 := by omega
  have hql : q ≤ k := by rw [hq]; exact hp.opens
  have hqe : ((q : Int) == 0) = true := by rw [hq]; rfl
  have HK1 := Lib.hid hk1
  have HQ := Lib.hid hq
  have HP := Lib.hid hp
  have HM := Lib.hid hm
  have HB := Lib.hid hb
  have HBW := Lib.hid hBw
  have HBE := Lib.hid hB
  have HE := Lib.hid hE
  have HL := Lib.hid hl
  have HNU := Lib.hid hnu
  rw [← hnu]
  have HDH := Lib.hid h0
  clear h0
  have HCE : Hid ((runM [] c0M dm).2 = []) := Lib.hid hp.links
  have HHD : Hid (∀ w', Below w.heap.size w w' → Calls Tryz.prog 9 #[.map (some b)] w' (HandlesP k N w')) := Lib.hid (fun w' hw => handles_any (hm.now.chg (Chg.of_below (S := fun _ => False) hw) id) (by omega) (fun x r hx => by have := hp.bound hx; omega))
  have c0 : w.cell? ⟨t, 0, none⟩ = some (.slice Ad k cd) := cell_of_heap hm.cell 0
  have c1 : w.cell? ⟨t, 1, none⟩ = some (.map (some b)) := cell_of_heap hm.cell 1
  have c2 : w.cell? ⟨t, 2, none⟩ = some (.slice Ao q co) := cell_of_heap hm.cell 2
  have ltt : t < w.heap.size := lt_of_heap hm.cell
  clear hp hm hb hB hBw hE hl hnu hq hk1
  go_enter Tryz.func8, Tryz.ntmps8
  go_wp2_with (go_at_call 9
               refine (HHD.out _ ((Below.refl _ _).alloc (Nat.le_refl _) _)).mono ?_
               rintro y w1 ⟨A1, n1, cc1, xs, rfl, hn1, hown1, hall1, hk1x, hb1⟩
               have HO1 := Lib.hid hown1
               have HA1 := Lib.hid hall1
               have HKX := Lib.hid hk1x
               have HB1 : Hid (Below w.heap.size w w1) := Lib.hid (up_below' ((Below.refl _ w).alloc (Nat.le_refl _) _) hb1)
               have HP1 : Hid (w1.heap[w.heap.size]? = some (.cells #[.string ⟨#[117, 112, 100, 97, 116, 101]⟩, .int .i64 dh, .slice A nu c] 34 (0, 0))) := Lib.hid (heap_below (heap_new w (.cells #[.string ⟨#[117, 112, 100, 97, 116, 101]⟩, .int .i64 dh, .slice A nu c] 34)) hb1)
               have HT1 : Hid (w1.heap[t]? = some (.cells #[.slice Ad k cd, .map (some b), .slice Ao q co] 30 (0, 0))) := Lib.hid (heap_below HM.out.cell HB1.out)
               have HM1 := Lib.hid (HM.out.below HB1.out)
               have hs1 : w.heap.size < w1.heap.size := lt_of_heap HP1.out
               have t0 := cell_of_heap HT1.out 0
               have t1 := cell_of_heap HT1.out 1
               have t2 := cell_of_heap HT1.out 2
               have tf := free_of_heap HT1.out 0
               have p0 := cell_of_heap HP1.out 0
               have p1 := cell_of_heap HP1.out 1
               have p2 := cell_of_heap HP1.out 2
               clear hall1 hk1x hb1 c0 c1 c2
               rcases rem_cases (xs := xs) HDH.out hn1 hown1 with hz | ⟨j, hx, gx, cx, hz, hj, hrm, hA1, hxm, hxc⟩
               all_goals try (subst hA1; have HXM := Lib.hid hxm; have pf := free_of_heap HP1.out 1; clear hxm)
               all_goals clear hn1 hown1)
  all_goals
    go_ret
    exact Tr.stay HP.out HM.out HB.out HBW.out HB1.out

set_option maxRecDepth 100000 in
set_option maxHeartbeats 6400000 in
theorem tried_delete0 {w0 w : World} {B t k b : Nat} {dv : List MDV} {dm : List (MD (List VV))} {N : NMap} {dsv ov : Value} {a : Addr} (hp : TrP w0 dv dm N [] k) (hm : TrM B w t k dv b N [] dsv ov) (hb : Below B w0 w) (hB : B = w0.heap.size) (hBw : B ≤ w.heap.size) (hE : ErrsOk w0 a) (hk : k ≤ 85) {dh : Int} {A : Option Addr} {c : Nat} {us : List VV} (hl : LAt w0 A us) (h0 : 0 ≤ dh) :
    Calls Tryz.prog 8 #[.pointer (some ⟨t, 0, none⟩), .agg #[.string ⟨#[100, 101, 108, 101, 116, 101]⟩, .int .i64 dh, .slice A us.length c]] w (DeedP B w0 t k) := by
  obtain ⟨i0, hi0, hz0, hz1, hz2⟩ := info_parts info_mdeed
  obtain ⟨Ad, cd, rfl⟩ := own_form hm.deeds
  obtain ⟨Ao, co, rfl⟩ := own_form hm.opens
  rw [hp.len1] at hm
  obtain ⟨nu, hnu⟩ : ∃ nu, nu = us.length := ⟨_, rfl⟩
  obtain ⟨q, hq⟩ : ∃ q, q = ([] : List (Nat × NMap)).length := ⟨_, rfl⟩
  rw [← hq] at hm
  obtain ⟨k1, hk1⟩ : ∃ k1, k1 = k + 1 := ⟨_, rfl⟩
  have hx1 : (k1 : Int) - 1 = (k : Int) := i64_pred2 hk1
  have hx2 : IntKind.i64.wrap ((k1 : Int) - 1) = (k : Int) := i64_pred3 hk1 (by omega)
  have hx3 : k < k1 := by omega
  have hql : q ≤ k := by rw [hq]; exact hp.opens
  have hqe : ((q : Int) == 0) = true := by rw [hq]; rfl
  have HK1 := Lib.hid hk1
  have HQ := Lib.hid hq
  have HP := Lib.hid hp
  have HM := Lib.hid hm
  have HB := Lib.hid hb
  have HBW := Lib.hid hBw
  have HBE := Lib.hid hB
  have HE := Lib.hid hE
  have HL := Lib.hid hl
  have HNU := Lib.hid hnu
  rw [← hnu]
  have HDH := Lib.hid h0
  clear h0
  have HCE : Hid ((runM [] c0M dm).2 = []) := Lib.hid hp.links
  have HHD : Hid (∀ w', Below w.heap.size w w' → Calls Tryz.prog 9 #[.map (some b)] w' (HandlesP k N w')) := Lib.hid (fun w' hw => handles_any (hm.now.chg (Chg.of_below (S := fun _ => False) hw) id) (by omega) (fun x r hx => by have := hp.bound hx; omega))
  have c0 : w.cell? ⟨t, 0, none⟩ = some (.slice Ad k cd) := cell_of_heap hm.cell 0
  have c1 : w.cell? ⟨t, 1, none⟩ = some (.map (some b)) := cell_of_heap hm.cell 1
  have c2 : w.cell? ⟨t, 2, none⟩ = some (.slice Ao q co) := cell_of_heap hm.cell 2
  have ltt : t < w.heap.size := lt_of_heap hm.cell
  clear hp hm hb hB hBw hE hl hnu hq hk1
  go_enter Tryz.func8, Tryz.ntmps8
  go_wp2_with (go_at_call 9
               refine (HHD.out _ ((Below.refl _ _).alloc (Nat.le_refl _) _)).mono ?_
               rintro y w1 ⟨A1, n1, cc1, xs, rfl, hn1, hown1, hall1, hk1x, hb1⟩
               have HO1 := Lib.hid hown1
               have HA1 := Lib.hid hall1
               have HKX := Lib.hid hk1x
               have HB1 : Hid (Below w.heap.size w w1) := Lib.hid (up_below' ((Below.refl _ w).alloc (Nat.le_refl _) _) hb1)
               have HP1 : Hid (w1.heap[w.heap.size]? = some (.cells #[.string ⟨#[100, 101, 108, 101, 116, 101]⟩, .int .i64 dh, .slice A nu c] 34 (0, 0))) := Lib.hid (heap_below (heap_new w (.cells #[.string ⟨#[100, 101, 108, 101, 116, 101]⟩, .int .i64 dh, .slice A nu c] 34)) hb1)
               have HT1 : Hid (w1.heap[t]? = some (.cells #[.slice Ad k cd, .map (some b), .slice Ao q co] 30 (0, 0))) := Lib.hid (heap_below HM.out.cell HB1.out)
               have HM1 := Lib.hid (HM.out.below HB1.out)
               have hs1 : w.heap.size < w1.heap.size := lt_of_heap HP1.out
               have t0 := cell_of_heap HT1.out 0
               have t1 := cell_of_heap HT1.out 1
               have t2 := cell_of_heap HT1.out 2
               have tf := free_of_heap HT1.out 0
               have p0 := cell_of_heap HP1.out 0
               have p1 := cell_of_heap HP1.out 1
               have p2 := cell_of_heap HP1.out 2
               clear hall1 hk1x hb1 c0 c1 c2
               rcases rem_cases (xs := xs) HDH.out hn1 hown1 with hz | ⟨j, hx, gx, cx, hz, hj, hrm, hA1, hxm, hxc⟩
               all_goals try (subst hA1; have HXM := Lib.hid hxm; have pf := free_of_heap HP1.out 1; clear hxm)
               all_goals clear hn1 hown1)
  all_goals
    go_ret
    exact Tr.stay HP.out HM.out HB.out HBW.out HB1.out

end Go.Proofs.YtffgkocokkhahaaGreatDoor
