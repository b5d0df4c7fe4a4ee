/-
  impl.indexWalk, back. PRINTED off XXwa.lean.tpl (walk_next, the names turned). || impl.indexWalk where there is nothing; through an index from its first entry on, and from its last one back. || impl.indexWalk where there is nothing. || Keys put in order, one after the other. || An index and the data of its keys: Create, SeekFirst, SeekLast and indexWalk of it. || Lists of rows in memory. || A row put among rows; rows in order. No program. || Deeds to an index and their answers, in memory. || laws.zzFits16 (as Sl7, without impl.KeyCompare); a list of one value in new memory. || laws.zzFits17, laws.isKey, laws.filled. || A valid value that is brought (as Back, without a law's walk) into the database and out again is the same. No condition but that it is valid. || Rows that came out of an index are the same as those that were put in. || laws.sameRow and laws.sameIndex, of what is the same; laws.back. || A row that is not empty, opened. || A law's map of rows by handles, as a function. || laws.copied, laws.handles: maps of rows by handles. || laws.handles.
-/
import Derived.Test.YtffgkocokkhahaaGreatDoorP05
import Derived.Test.YtffgkocokkhahaaGreatDoorKo
import Derived.Test.YtffgkocokkhahaaGreatDoorSl6
import Derived.Deep.RegionLaw
import Derived.Deep.AppendLies
import Derived.Test.YtffgkocokkhahaaGreatDoorP02
import Derived.Maps.Ext
import Derived.Maps.RangeWalk

/- impl.indexWalk, back. PRINTED off XXwa.lean.tpl (walk_next, the names turned). -/
namespace Go.Proofs.YtffgkocokkhahaaGreatDoor
open Go.RowKit

set_option maxRecDepth 100000 in
set_option maxHeartbeats 3200000 in
theorem walk_prev (b : Nat) (n : Int) (hit : Bool) (es : List XE) (It : Nat → World → Prop) (E : Value) (w : World) (h0 : 0 ≤ n) (h1 : n ≤ 1000000) (lb : b < w.heap.size) (hE : ∃ a, E = .iface 194 (.pointer (some a))) (hI : It 0 w)
    (HS : Hid (∀ k x w1, Chg (fun x => x = b) w w1 → It k w1 → es[k]? = some x → Calls Tryz.prog 152 #[.pointer (some ⟨b, 0, none⟩)] w1 (Got2 x b (It (k + 1)) w1)))
    (HE : Hid (∀ w1, Chg (fun x => x = b) w w1 → It es.length w1 → Calls Tryz.prog 152 #[.pointer (some ⟨b, 0, none⟩)] w1 (fun y w' => y = .returned (.tuple #[.slice none 0 0, .int .i64 (-1), E]) ∧ Below w1.heap.size w1 w')))
    (HC : Hid (∀ k w1 w2 (S : Nat → Prop), It k w1 → Chg S w1 w2 → ¬ S b → It k w2))
    (HD : Hid (∀ (k : Nat) (x : XE) (w1 : World), Chg (fun x => x = b) w w1 → es[k]? = some x → Calls Tryz.prog 56 #[.slice x.A x.m x.p] w1 (OutsPost x.l w1))) :
    Calls Tryz.prog 45 #[.iface 148 (.pointer (some ⟨b, 0, none⟩)), .nilIface, .int .i64 n, .bool false, .bool hit] w (WalkP n hit es b w) := by
  obtain ⟨i0, hi, hz0, hz1, hz2⟩ := info_parts info_irow
  obtain ⟨aE, rfl⟩ := hE
  have HI := Lib.hid hI
  clear hI
  go_enter Tryz.func45, Tryz.ntmps45
  go_wp2
  go_loopw [1, 12] (fun er i wr => ∃ (k : Nat) (rs : List RowV) (R : Value), rs.length = k ∧ k ≤ es.length ∧ (k : Int) ≤ n ∧
      wr.heap[w.heap.size]? = some (.cells #[.int .i64 0, .bool false, .slice none 0 0] 47 (0, 0)) ∧ wr.heap[w.heap.size + 1]? = some (.cells #[.int .i64 0, .bool hit, R] 47 (0, 0)) ∧
      wr.ownsRow w.heap.size 65 2 R k (flat RowV.cells rs) ∧ RowsOk w.heap.size wr es rs ∧ Chg (fun x => x = b) w wr ∧
      ((er = .nilIface ∧ i = .int .i64 k ∧ It k wr) ∨ (er = .iface 194 (.pointer (some aE)) ∧ k = es.length ∧ i = .int .i64 (k + 1)))) (fun _ i _ => (n + 2 - intOf i).toNat)
  case atStart =>
    refine ⟨0, [], .slice none 0 0, rfl, Nat.zero_le _, h0, ?_, ?_, World.ownsRow_nil _ _ _ _, fun j e r _ h => by simp at h, ((Chg.refl _ _).alloc _).alloc _, .inl ⟨rfl, rfl, HC.out 0 w _ (fun _ => False) HI.out (((Chg.refl _ _).alloc _).alloc _) id⟩⟩
    · exact (heap_alloc_ne _ _ _ (by simp)).trans (heap_new w _)
    · have := heap_new (w.alloc (.cells #[.int .i64 0, .bool false, .slice none 0 0] 47)) (.cells #[.int .i64 0, .bool hit, .slice none 0 0] 47)
      simpa using this
  case round =>
    obtain ⟨k, rs, R, hrs, hk, hkn, hA, hB, hown, hok, hch, hor⟩ := hrel
    have HA := Lib.hid hA
    have HB := Lib.hid hB
    have HO := Lib.hid hown
    have HK := Lib.hid hok
    have HW := Lib.hid hch
    have HRS := Lib.hid hrs
    have hs := hch.size
    clear hA hB hown hok hch hrs
    rcases hor with ⟨rfl, rfl, hI⟩ | ⟨rfl, hke, rfl⟩
    · by_cases hlt : (k : Int) < n
      · have b2 : wr.cell? ⟨w.heap.size + 1, 2, none⟩ = some R := cell_of_heap HB.out 2
        have g2 : wr.frozen? ⟨w.heap.size + 1, 2, none⟩ = false := free_of_heap HB.out 2
        have hkw : IntKind.i64.wrap ((k : Int) + 1) = (k : Int) + 1 := IntWalk.i64_in _ (by omega)
        rcases Nat.lt_or_ge k es.length with hlt2 | hge
        · obtain ⟨x, hx⟩ : ∃ x, es[k]? = some x := ⟨_, List.getElem?_eq_getElem hlt2⟩
          have HX := Lib.hid hx
          have HN := Lib.hid (HS.out k x wr HW.out hI hx)
          clear hx hI b2 g2
          go_wp2_with (go_at_call 152
                       refine HN.out.mono ?_
                       rintro y w1 ⟨rfl, hI1, hc1⟩
                       have HI1 := Lib.hid hI1
                       have HC1 := Lib.hid hc1
                       have hs1 := hc1.size
                       clear hI1 hc1)
          have hW1 : Chg (fun z => z = b) w w1 := HW.out.trans HC1.out
          have HW1 := Lib.hid hW1
          have HA1 := Lib.hid (heap_chg HA.out HC1.out (by omega))
          have HB1 := Lib.hid (heap_chg HB.out HC1.out (by omega))
          have HO1 := Lib.hid (own_chg HO.out HC1.out (fun z hz h => by have := own_ge HO.out hz; omega))
          have lA := lt_of_heap HB1.out
          have b2 : w1.cell? ⟨w.heap.size + 1, 2, none⟩ = some R := cell_of_heap HB1.out 2
          clear hW1
          go_region_law
            (first
              | (refine step_append_lies _ (by rfl) _ _ _ (by rfl) w.heap.size 65 i0 _ 2 32 Tryz.underlying37 hi hz0 hz1 hz2 rfl (by omega) R k (flat RowV.cells rs) (by rfl) ((own_below HO1.out HB2.out).alloc _)
                  ⟨w2.heap.size, 0, none⟩ 1 1 [.slice A2 x.l.length c2, .int .i64 x.h] (by rfl) (by rfl) (World.news_of_block (cs := #[.slice A2 x.l.length c2, .int .i64 x.h]) (t := 65) (fr := (0, 0)) (heap_new w2 _)) (by simp [Value.oneCell'])
                  (by omega) (by simp only [maxLen]; omega) (by omega) (by have := HB2.out.size; simp; omega) (w2.heap.size + 1) (by simp) ?_
                 intro gg cap w3 hown3 hgrow hat hlt
                 have HG3 := Lib.hid hgrow
                 have HO3 := Lib.hid hown3
                 have HB3 : Hid (w3.heap[w.heap.size + 1]? = some (.cells #[.int .i64 0, .bool hit, R] 47 (0, 0))) := Lib.hid ((hgrow.block _ (by have := HB2.out.size; simp; omega) (Ne.symm (own_ne HO1.out HB1.out (by decide)))).trans ((heap_alloc_ne _ _ _ (by have := HB2.out.size; omega)).trans ((HB2.out.block _ lA).trans HB1.out)))
                 have c3 : w3.cell? ⟨w.heap.size + 1, 2, none⟩ = some R := cell_of_heap HB3.out 2
                 have f3 : w3.frozen? ⟨w.heap.size + 1, 2, none⟩ = false := free_of_heap HB3.out 2
                 clear hgrow hown3)
              | (go_simp; go_at_call 56
                 refine (HD.out k x _ (by first | exact HW1.out | exact HW1.out.drew) HX.out).mono ?_
                 rintro y w2 ⟨A2, c2, us2, rfl, hown2, hlen2, hout2, hb2⟩
                 have HB2 : Hid (Below w1.heap.size w1 w2) := (by first | exact Lib.hid hb2 | exact Lib.hid ⟨hb2.os, hb2.tape, hb2.output, hb2.size, hb2.block⟩)
                 have HO2 : Hid (w2.ownsRow w1.heap.size 57 5 (.slice A2 x.l.length c2) x.l.length (flat VV.cells us2)) := Lib.hid hown2
                 have HL2 := Lib.hid hlen2
                 have HU2 := Lib.hid hout2
                 have d2 : w2.cell? ⟨w.heap.size + 1, 2, none⟩ = some R := (World.cell?_of_block (HB2.out.block _ lA)).trans b2
                 have d3 : (w2.alloc (.cells #[.slice A2 x.l.length c2, .int .i64 x.h] 65)).cell? ⟨w.heap.size + 1, 2, none⟩ = some R := (World.cell?_of_block (heap_alloc_ne w2 (w.heap.size + 1) _ (by have := HB2.out.size; omega))).trans d2
                 clear hb2 hown2 hlen2 hout2))
          all_goals
            go_wp2
            have kc := walk_kc (a := w.heap.size + 1) HC1.out HB2.out HG3.out (.slice (some ⟨gg, 0, none⟩) (k + 1) cap)
            exact ⟨⟨k + 1, rs ++ [⟨A2, c2, x.h, us2⟩], .slice (some ⟨gg, 0, none⟩) (k + 1) cap, walk_step lb HA.out HB.out HO.out HK.out HW.out HRS.out HX.out hlt2 (by omega) kc HB3.out HO1.out HB1.out HO2.out HL2.out HU2.out HG3.out HO3.out (HC.out (k + 1) w1 _ _ HI1.out (walk_kc2 (a := w.heap.size + 1) HB2.out HG3.out _) (by rintro (h | h); exact absurd (own_ge HO1.out h) (by omega); omega))⟩, by simp [intOf]; omega⟩
        · have hke : k = es.length := by omega
          have HN := Lib.hid (HE.out wr HW.out (hke ▸ hI))
          clear hI
          go_wp2_with (go_at_call 152
                       refine HN.out.mono ?_
                       rintro y w1 ⟨rfl, hb1⟩
                       have HB1 := Lib.hid hb1
                       have hs1 := hb1.size
                       clear hb1)
          exact ⟨⟨k, rs, R, HRS.out, hk, hkn, heap_below HA.out HB1.out, heap_below HB.out HB1.out, own_below HO.out HB1.out, fun j e r he hr => (HK.out j e r he hr).chg (Chg.of_below (S := fun _ => False) HB1.out) (fun _ _ h => h), HW.out.trans (Chg.of_below HB1.out), .inr ⟨rfl, hke, by rw [hke]⟩⟩, by simp [intOf]; omega⟩
      · obtain ⟨A', c', rfl⟩ := own_form HO.out
        have a0 := cell_of_heap HA.out 0
        have a1 := cell_of_heap HA.out 1
        have a2 := cell_of_heap HA.out 2
        have b0 := cell_of_heap HB.out 0
        have b1 := cell_of_heap HB.out 1
        have b2 := cell_of_heap HB.out 2
        have g0 := free_of_heap HA.out 0
        have g1 := free_of_heap HA.out 1
        have g2 := free_of_heap HA.out 2
        have hn' := hk
        go_wp2
        obtain ⟨W, hW⟩ : ∃ W, W = ((wr.setCell ⟨w.heap.size, 0, none⟩ (.int .i64 0)).setCell ⟨w.heap.size, 1, none⟩ (.bool hit)).setCell ⟨w.heap.size, 2, none⟩ (.slice A' k c') := ⟨_, rfl⟩
        rw [← hW]
        have hh : W.heap[w.heap.size]? = some (.cells #[.int .i64 0, .bool hit, .slice A' k c'] 47 (0, 0)) := by rw [hW, heap_setCell_at, heap_setCell_at, heap_setCell_at, HA.out]; rfl
        have d0 : W.cell? ⟨w.heap.size, 0, none⟩ = some (.int .i64 0) := cell_of_heap hh 0
        have d1 : W.cell? ⟨w.heap.size, 1, none⟩ = some (.bool hit) := cell_of_heap hh 1
        have d2 : W.cell? ⟨w.heap.size, 2, none⟩ = some (.slice A' k c') := cell_of_heap hh 2
        refine bodyPost_ret (v := .agg #[.int .i64 0, .bool hit, .slice A' k c']) (by simp [results, Tryz.results45, go_sem, d0, d1, d2]) rfl ?_
        exact walk_fin HA.out HO.out HK.out HW.out (hW ▸ Chg.setCell (Chg.setCell (Chg.setCell (Chg.refl (fun x => x = w.heap.size) wr) (p := ⟨w.heap.size, _, none⟩) (.inl rfl) _) (p := ⟨w.heap.size, _, none⟩) (.inl rfl) _) (p := ⟨w.heap.size, _, none⟩) (.inl rfl) _) HRS.out hk hkn (by omega)
    · subst hke
      obtain ⟨A', c', rfl⟩ := own_form HO.out
      have a0 := cell_of_heap HA.out 0
      have a1 := cell_of_heap HA.out 1
      have a2 := cell_of_heap HA.out 2
      have b0 := cell_of_heap HB.out 0
      have b1 := cell_of_heap HB.out 1
      have b2 := cell_of_heap HB.out 2
      have g0 := free_of_heap HA.out 0
      have g1 := free_of_heap HA.out 1
      have g2 := free_of_heap HA.out 2
      have hn' := hk
      go_wp2
      obtain ⟨W, hW⟩ : ∃ W, W = ((wr.setCell ⟨w.heap.size, 0, none⟩ (.int .i64 0)).setCell ⟨w.heap.size, 1, none⟩ (.bool hit)).setCell ⟨w.heap.size, 2, none⟩ (.slice A' es.length c') := ⟨_, rfl⟩
      rw [← hW]
      have hh : W.heap[w.heap.size]? = some (.cells #[.int .i64 0, .bool hit, .slice A' es.length c'] 47 (0, 0)) := by rw [hW, heap_setCell_at, heap_setCell_at, heap_setCell_at, HA.out]; rfl
      have d0 : W.cell? ⟨w.heap.size, 0, none⟩ = some (.int .i64 0) := cell_of_heap hh 0
      have d1 : W.cell? ⟨w.heap.size, 1, none⟩ = some (.bool hit) := cell_of_heap hh 1
      have d2 : W.cell? ⟨w.heap.size, 2, none⟩ = some (.slice A' es.length c') := cell_of_heap hh 2
      refine bodyPost_ret (v := .agg #[.int .i64 0, .bool hit, .slice A' es.length c']) (by simp [results, Tryz.results45, go_sem, d0, d1, d2]) rfl ?_
      exact walk_fin HA.out HO.out HK.out HW.out (hW ▸ Chg.setCell (Chg.setCell (Chg.setCell (Chg.refl (fun x => x = w.heap.size) wr) (p := ⟨w.heap.size, _, none⟩) (.inl rfl) _) (p := ⟨w.heap.size, _, none⟩) (.inl rfl) _) (p := ⟨w.heap.size, _, none⟩) (.inl rfl) _) HRS.out hk hkn (by omega)

end Go.Proofs.YtffgkocokkhahaaGreatDoor

/- impl.indexWalk where there is nothing; through an index from its first entry on, and from its last one back. -/
namespace Go.Proofs.YtffgkocokkhahaaGreatDoor
open Go.RowKit

theorem walk_first {P : List Pg} {b t : Nat} {ver : Int} {E : Value} {c : Int} {fi la r : Value} {w : World} {n : Int} {hit : Bool} (h0 : 0 ≤ n) (h1 : n ≤ 1000000) (hch : Chain w (.pointer none) P (.pointer none)) (hn : ∀ p ∈ P, 1 ≤ p.2.length) (hpb : ∀ p ∈ P, ¬ p.1 = b)
    (ht : TreeW w t c fi la r ver) (htb : ¬ t = b) (hE : HasEof w E) (hbE : ¬ 4 = b) (h : AtN P w b t ver false E 0) (lb : b < w.heap.size)
    (HD : Hid (∀ (k : Nat) (x : XE) (w1 : World), Chg (fun x => x = b) w w1 → (ents P)[k]? = some x → Calls Tryz.prog 56 #[.slice x.A x.m x.p] w1 (OutsPost x.l w1))) :
    Calls Tryz.prog 45 #[.iface 148 (.pointer (some ⟨b, 0, none⟩)), .nilIface, .int .i64 n, .bool true, .bool hit] w (WalkP n hit (ents P) b w) := by
  refine walk_next b n hit (ents P) (fun k w1 => AtN P w1 b t ver false E k) E w h0 h1 lb hE.form h (Lib.hid fun k x w1 hc hi hx => ?_) (Lib.hid fun w1 hc hi => ?_) (Lib.hid fun k w1 w2 S hi hc hS => hi.chg hc hS) HD
  · exact Next2_step x (chain_chg hch hc hpb) hn (ht.chg hc htb) (hE.chg hc hbE) hbE hi hx
  · generalize hg : (ents P).length = g at hi
    cases hi with
    | at_ hP hi h =>
      subst hP
      rw [ents_append] at hg
      simp [ents] at hg
      omega
    | end_ h => exact Next2_stop hE.form h

theorem walk_last {P : List Pg} {b t : Nat} {ver : Int} {E : Value} {c : Int} {fi la r : Value} {w : World} {n : Int} {hit : Bool} (h0 : 0 ≤ n) (h1 : n ≤ 1000000) (hch : Chain w (.pointer none) P (.pointer none)) (hn : ∀ p ∈ P, 1 ≤ p.2.length) (hpb : ∀ p ∈ P, ¬ p.1 = b)
    (ht : TreeW w t c fi la r ver) (htb : ¬ t = b) (hE : HasEof w E) (hbE : ¬ 4 = b) (h : AtP P w b t ver false E (ents P).length) (lb : b < w.heap.size)
    (HD : Hid (∀ (k : Nat) (x : XE) (w1 : World), Chg (fun x => x = b) w w1 → (ents P).reverse[k]? = some x → Calls Tryz.prog 56 #[.slice x.A x.m x.p] w1 (OutsPost x.l w1))) :
    Calls Tryz.prog 45 #[.iface 148 (.pointer (some ⟨b, 0, none⟩)), .nilIface, .int .i64 n, .bool false, .bool hit] w (WalkP n hit (ents P).reverse b w) := by
  refine walk_prev b n hit (ents P).reverse (fun k w1 => AtP P w1 b t ver false E ((ents P).length - k)) E w h0 h1 lb hE.form h (Lib.hid fun k x w1 hc hi hx => ?_) (Lib.hid fun w1 hc hi => ?_) (Lib.hid fun k w1 w2 S hi hc hS => hi.chg hc hS) HD
  · have hk : k < (ents P).length := by
      have := (List.getElem?_eq_some_iff.1 hx).1
      simpa using this
    have e1 : (ents P).length - k = ((ents P).length - (k + 1)) + 1 := by omega
    have hx' : (ents P)[(ents P).length - (k + 1)]? = some x := by
      rw [List.getElem?_reverse hk] at hx
      rw [← hx]
      congr 1
      omega
    rw [e1] at hi
    exact Prev2_step x (chain_chg hch hc hpb) hn (ht.chg hc htb) (hE.chg hc hbE) hbE hi hx'
  · rw [List.length_reverse, Nat.sub_self] at hi
    generalize hg : (0 : Nat) = g at hi
    cases hi with
    | at_ hP hi h => omega
    | end_ h => exact Prev2_stop hE.form h

end Go.Proofs.YtffgkocokkhahaaGreatDoor

/- impl.indexWalk where there is nothing. -/
namespace Go.Proofs.YtffgkocokkhahaaGreatDoor
open Go.RowKit

set_option maxRecDepth 100000 in
set_option maxHeartbeats 3200000 in
theorem walk_none (it E : Value) (n : Int) (nx hit : Bool) (w : World) (hE : ∃ a, E = .iface 194 (.pointer (some a))) :
    Calls Tryz.prog 45 #[it, E, .int .i64 n, .bool nx, .bool hit] w fun y w' => y = .returned (.agg #[.int .i64 0, .bool hit, .slice none 0 0]) ∧ Below w.heap.size w w' := by
  obtain ⟨aE, rfl⟩ := hE
  go_enter Tryz.func45, Tryz.ntmps45
  go_wp2
  go_loopw [1, 12] (fun er i wr => er = .iface 194 (.pointer (some aE)) ∧ i = .int .i64 0 ∧
      wr.heap[w.heap.size]? = some (.cells #[.int .i64 0, .bool false, .slice none 0 0] 47 (0, 0)) ∧ wr.heap[w.heap.size + 1]? = some (.cells #[.int .i64 0, .bool hit, .slice none 0 0] 47 (0, 0)) ∧ Below w.heap.size w wr) (fun _ _ _ => 0)
  case atStart =>
    refine ⟨rfl, rfl, ?_, ?_, below_al2 w _ _⟩
    · exact (heap_alloc_ne _ _ _ (by simp)).trans (heap_new w _)
    · have := heap_new (w.alloc (.cells #[.int .i64 0, .bool false, .slice none 0 0] 47)) (.cells #[.int .i64 0, .bool hit, .slice none 0 0] 47)
      simpa using this
  case round =>
    obtain ⟨rfl, rfl, hA, hB, hb⟩ := hrel
    have HA := Lib.hid hA
    have HB := Lib.hid hb
    have a0 := cell_of_heap HA.out 0
    have a1 := cell_of_heap HA.out 1
    have a2 := cell_of_heap HA.out 2
    have b0 := cell_of_heap hB 0
    have b1 := cell_of_heap hB 1
    have b2 := cell_of_heap hB 2
    have g0 := free_of_heap HA.out 0
    have g1 := free_of_heap HA.out 1
    have g2 := free_of_heap HA.out 2
    clear hA hB hb
    go_wp2
    obtain ⟨W, hW⟩ : ∃ W, W = ((wr.setCell ⟨w.heap.size, 0, none⟩ (.int .i64 0)).setCell ⟨w.heap.size, 1, none⟩ (.bool hit)).setCell ⟨w.heap.size, 2, none⟩ (.slice none 0 0) := ⟨_, rfl⟩
    rw [← hW]
    have hh : W.heap[w.heap.size]? = some (.cells #[.int .i64 0, .bool hit, .slice none 0 0] 47 (0, 0)) := by rw [hW, heap_setCell_at, heap_setCell_at, heap_setCell_at, HA.out]; rfl
    have d0 : W.cell? ⟨w.heap.size, 0, none⟩ = some (.int .i64 0) := cell_of_heap hh 0
    have d1 : W.cell? ⟨w.heap.size, 1, none⟩ = some (.bool hit) := cell_of_heap hh 1
    have d2 : W.cell? ⟨w.heap.size, 2, none⟩ = some (.slice none 0 0) := cell_of_heap hh 2
    refine bodyPost_ret (v := .agg #[.int .i64 0, .bool hit, .slice none 0 0]) (by simp [results, Tryz.results45, go_sem, d0, d1, d2]) rfl ?_
    have hc : Chg (fun x => x = w.heap.size) wr W := hW ▸ Chg.setCell (Chg.setCell (Chg.setCell (Chg.refl (fun x => x = w.heap.size) wr) (p := ⟨w.heap.size, _, none⟩) (.inl rfl) _) (p := ⟨w.heap.size, _, none⟩) (.inl rfl) _) (p := ⟨w.heap.size, _, none⟩) (.inl rfl) _
    have k1 : Chg (fun _ => False) w W := (Chg.of_below HB.out).next hc (fun x hx h => by omega)
    exact ⟨rfl, k1.below (Nat.le_refl _) (fun _ h => h.elim)⟩

end Go.Proofs.YtffgkocokkhahaaGreatDoor

/- Keys put in order, one after the other. -/
namespace Go.Proofs.YtffgkocokkhahaaGreatDoor
open Go.RowKit

def insK (r : Key) : List Key → List Key
  | [] => [r]
  | x :: l => if r.c x < 0 then r :: x :: l else x :: insK r l

def sortK (ks : List Key) : List Key := ks.foldl (fun out r => insK r out) []

def signK (r : Key) (out : List Key) : Nat → Int := fun j => match out[j]? with
  | some x => r.c x
  | none => 0

theorem signK_at {r x : Key} {out : List Key} {j : Nat} (h : out[j]? = some x) : signK r out j = r.c x := by unfold signK; rw [h]

theorem insK_at (r : Key) : ∀ (out : List Key) (g : Nat), g ≤ out.length → (∀ (j : Nat) (x : Key), j < g → out[j]? = some x → 0 < r.c x) → (∀ x, out[g]? = some x → r.c x < 0) → insK r out = out.take g ++ r :: out.drop g
  | [], g, hg, _, _ => by
    obtain rfl : g = 0 := by simpa using hg
    rfl
  | x :: l, 0, _, _, h => by
    have := h x rfl
    simp [insK, this]
  | x :: l, g + 1, hg, ha, hb => by
    have h1 := ha 0 x (by omega) rfl
    have h2 : ¬ r.c x < 0 := by omega
    rw [insK, if_neg h2, insK_at r l g (by simpa using hg) (fun j y hj hy => ha (j + 1) y (by omega) (by simpa using hy)) (fun y hy => hb y (by simpa using hy))]
    simp

theorem insK_pos {r : Key} {out : List Key} {g : Nat} (hp : Pos (signK r out) out.length g false) : insK r out = out.take g ++ r :: out.drop g := by
  refine insK_at r out g hp.le (fun j x hj hx => ?_) (fun x hx => ?_)
  · rw [← signK_at hx]; exact hp.ahead j hj
  · rw [← signK_at hx]; exact hp.miss rfl (List.getElem?_eq_some_iff.1 hx).1

theorem mem_insK {r k : Key} : ∀ {out : List Key}, k ∈ insK r out ↔ k = r ∨ k ∈ out
  | [] => by simp [insK]
  | x :: l => by
    unfold insK
    split
    · simp
    · simp only [List.mem_cons, mem_insK]
      exact ⟨fun h => by rcases h with h | h | h <;> simp [h], fun h => by rcases h with h | h | h <;> simp [h]⟩

theorem length_insK {r : Key} : ∀ {out : List Key}, (insK r out).length = out.length + 1
  | [] => rfl
  | x :: l => by
    unfold insK
    split
    · simp
    · simp [length_insK (r := r) (out := l)]

theorem sortK_snoc (ks : List Key) (r : Key) : sortK (ks ++ [r]) = insK r (sortK ks) := by simp [sortK]

theorem length_sortK (ks : List Key) : (sortK ks).length = ks.length := by
  have h : ∀ (ks out : List Key), (ks.foldl (fun out r => insK r out) out).length = out.length + ks.length := by
    intro ks
    induction ks with
    | nil => intro out; simp
    | cons k ks ih => intro out; simp only [List.foldl_cons, ih, length_insK, List.length_cons]; omega
  have := h ks []
  simpa [sortK] using this

theorem mem_sortK {k : Key} (ks : List Key) : k ∈ sortK ks ↔ k ∈ ks := by
  have h : ∀ (ks out : List Key), k ∈ ks.foldl (fun out r => insK r out) out ↔ k ∈ ks ∨ k ∈ out := by
    intro ks
    induction ks with
    | nil => intro out; simp
    | cons a ks ih =>
      intro out
      simp only [List.foldl_cons, ih, mem_insK, List.mem_cons]
      exact ⟨fun h => by rcases h with h | h | h <;> simp [h], fun h => by rcases h with (h | h) | h <;> simp [h]⟩
  have := h ks []
  simpa [sortK] using this

def Srt (out : List Key) : Prop := out.Pairwise fun a b => a.c b < 0

theorem srt_insK {r : Key} {n : Nat} (hr : r.l.length = n) : ∀ {out : List Key}, Srt out → (∀ x ∈ out, x.l.length = n) → (∀ x ∈ out, r.c x ≠ 0) → Srt (insK r out)
  | [], _, _, _ => by simp [insK, Srt]
  | x :: l, hs, hl, hn => by
    have hx := List.pairwise_cons.1 hs
    have lx := hl x (by simp)
    have nx := hn x (by simp)
    unfold insK
    split
    · rename_i hlt
      refine List.pairwise_cons.2 ⟨fun y hy => ?_, hs⟩
      rcases List.mem_cons.1 hy with rfl | hy
      · exact hlt
      · exact Key.trans (hr.trans lx.symm) (lx.trans (hl y (by simp [hy])).symm) hlt (hx.1 y hy)
    · rename_i hge
      refine List.pairwise_cons.2 ⟨fun y hy => ?_, srt_insK hr hx.2 (fun y hy => hl y (by simp [hy])) (fun y hy => hn y (by simp [hy]))⟩
      rcases mem_insK.1 hy with rfl | hy
      · rw [Key.anti]; omega
      · exact hx.1 y hy

theorem place_srt {r : Key} {n : Nat} (hr : r.l.length = n) {out : List Key} (hs : Srt out) (hl : ∀ x ∈ out, x.l.length = n) (hn : ∀ x ∈ out, r.c x ≠ 0) : ∃ g, Pos (signK r out) out.length g false := by
  have hg : ∀ (j : Nat) (h : j < out.length), signK r out j = r.c out[j] := fun j h => signK_at (List.getElem?_eq_getElem h)
  obtain ⟨g, ok, hp⟩ := pos_exists (signK r out) out.length (fun i j h1 h2 h3 => by
    have hi : i < out.length := by omega
    rw [hg i hi] at h3
    rw [hg j h2]
    have h4 := hn _ (List.getElem_mem hi)
    have h5 := List.pairwise_iff_getElem.1 hs i j hi h2 h1
    exact Key.trans (hr.trans (hl _ (List.getElem_mem hi)).symm) ((hl _ (List.getElem_mem hi)).trans (hl _ (List.getElem_mem h2)).symm) (by omega) h5)
  cases ok with
  | false => exact ⟨g, hp⟩
  | true =>
    have h := hp.hit rfl
    rw [hg g h.1] at h
    exact absurd h.2 (hn _ (List.getElem_mem h.1))

/-- Keys of as many values, no two of one handle. -/
structure KeysOk (ks : List Key) (n : Nat) : Prop where
  len : ∀ x ∈ ks, x.l.length = n
  ne : ∀ (i j : Nat) (a b : Key), i < j → ks[i]? = some a → ks[j]? = some b → a.h ≠ b.h

theorem c_ne {a b : Key} (h : a.h ≠ b.h) : a.c b ≠ 0 := by unfold Key.c; split <;> omega

theorem take_snoc {α : Type} {l : List α} {k : Nat} {r : α} (h : l[k]? = some r) : l.take (k + 1) = l.take k ++ [r] := by
  rw [List.take_add_one, h]; rfl

theorem mem_take_at {α : Type} {l : List α} {k : Nat} {x : α} (h : x ∈ l.take k) : ∃ i, i < k ∧ l[i]? = some x := by
  obtain ⟨i, hi, rfl⟩ := List.getElem_of_mem h
  have h1 : i < k ∧ i < l.length := by simp at hi; omega
  exact ⟨i, h1.1, by rw [List.getElem_take]; exact List.getElem?_eq_getElem h1.2⟩

theorem KeysOk.off {ks : List Key} {n : Nat} (h : KeysOk ks n) {k : Nat} {r : Key} (hr : ks[k]? = some r) : ∀ x ∈ sortK (ks.take k), x.l.length = n ∧ r.c x ≠ 0 := by
  intro x hx
  obtain ⟨i, hi, hx⟩ := mem_take_at ((mem_sortK _).1 hx)
  exact ⟨h.len x (List.mem_of_getElem? hx), c_ne (fun e => h.ne i k x r hi hx hr e.symm)⟩

theorem KeysOk.srt {ks : List Key} {n : Nat} (h : KeysOk ks n) : ∀ (k : Nat), k ≤ ks.length → Srt (sortK (ks.take k))
  | 0, _ => by simp [sortK, Srt]
  | k + 1, hk => by
    have hr : ks[k]? = some ks[k] := List.getElem?_eq_getElem (by omega)
    rw [take_snoc hr, sortK_snoc]
    exact srt_insK (h.len _ (List.mem_of_getElem? hr)) (h.srt k (by omega)) (fun x hx => (h.off hr x hx).1) (fun x hx => (h.off hr x hx).2)

theorem KeysOk.place {ks : List Key} {n : Nat} (h : KeysOk ks n) {k : Nat} {r : Key} (hr : ks[k]? = some r) : ∃ g, Pos (signK r (sortK (ks.take k))) (sortK (ks.take k)).length g false :=
  place_srt (h.len _ (List.mem_of_getElem? hr)) (h.srt k (by have := (List.getElem?_eq_some_iff.1 hr).1; omega)) (fun x hx => (h.off hr x hx).1) (fun x hx => (h.off hr x hx).2)

/-- The place that is found from the end. -/
theorem scan_pos {s : Nat → Int} {n g k : Nat} (hp : Pos s n g false) (hk : k ≤ n) (hd : ∀ j, k ≤ j → j < n → s j < 0) (hs : ∀ i, k = i + 1 → ¬ s i < 0) : k = g := by
  rcases Nat.lt_trichotomy k g with h | h | h
  · have h1 := hp.ahead k h
    have h2 := hd k (Nat.le_refl _) (Nat.lt_of_lt_of_le h hp.le)
    omega
  · exact h
  · obtain ⟨i, rfl⟩ : ∃ i, k = i + 1 := ⟨k - 1, by omega⟩
    refine absurd ?_ (hs i rfl)
    rcases Nat.lt_or_ge g i with h1 | h1
    · exact hp.behind i h1 (by omega)
    · obtain rfl : i = g := by omega
      exact hp.miss rfl (by omega)

end Go.Proofs.YtffgkocokkhahaaGreatDoor

/- An index and the data of its keys: Create, SeekFirst, SeekLast and indexWalk of it. -/
namespace Go.Proofs.YtffgkocokkhahaaGreatDoor
open Go.RowKit

def XE.key (e : XE) : Key := ⟨e.l, e.h⟩
def RowV.key (r : RowV) : Key := ⟨r.us, r.h⟩
def Key.xe (k : Key) : XE := ⟨k.l, none, 0, 0, k.h, 0⟩

/-- An entry whose values lie among D. -/
structure EOk (D : Nat → Prop) (w : World) (e : XE) : Prop where
  len : e.m = e.l.length
  conc : ConcL e.l
  short : e.l.length ≤ 1000
  lo : 0 ≤ e.h
  hi : e.h ≤ 9223372036854775807
  data : ∃ vs, InsD D w e.l e.A vs

theorem EOk.chg {D S : Nat → Prop} {w w' : World} {e : XE} (h : EOk D w e) (hc : Chg S w w') (hn : ∀ k, D k → ¬ S k) : EOk D w' e := by
  obtain ⟨vs, hd⟩ := h.data
  exact ⟨h.len, h.conc, h.short, h.lo, h.hi, vs, hd.chg hc hn⟩
theorem EOk.mono {D E : Nat → Prop} {w : World} {e : XE} (h : EOk D w e) (hn : ∀ k, D k → E k) : EOk E w e := by
  obtain ⟨vs, hd⟩ := h.data
  exact ⟨h.len, h.conc, h.short, h.lo, h.hi, vs, hd.mono hn⟩
theorem EOk.ins {D : Nat → Prop} {w : World} {e : XE} (h : EOk D w e) : Ins w e.l (.slice e.A e.m e.p) := by
  obtain ⟨vs, hd⟩ := h.data
  rw [h.len]
  exact ⟨e.A, e.p, vs, rfl, hd.reads, hd.rep⟩

theorem IdxAt.chg {T S : Nat → Prop} {w w' : World} {x m t n r : Nat} {L : Value} {uni : Bool} {es : List XE} (h : IdxAt w x m t n r L uni S es) (hc : Chg T w w') (hx : ¬ T x) (hm : ¬ T m) (hM : ∀ k, Mut S r L k → ¬ T k) : IdxAt w' x m t n r L uni S es :=
  ⟨heap_chg (show w.heap[x]? = _ from h.idx) hc hx, h.tree.chg hc (fun k hk => hM k (.inl hk)), h.store.chg hc hm (hM r (.inr (.inl rfl))) (fun b hb => hM b (.inr (.inr hb))), h.apart⟩

theorem IdxAt.lt {S : Nat → Prop} {w : World} {x m t n r : Nat} {L : Value} {uni : Bool} {es : List XE} (h : IdxAt w x m t n r L uni S es) : x < w.heap.size ∧ m < w.heap.size ∧ ∀ k, Mut S r L k → k < w.heap.size := by
  have hl := h.store.lt
  refine ⟨lt_of_heap (show w.heap[x]? = _ from h.idx), hl.1, ?_⟩
  rintro k (hk | rfl | hk)
  · exact h.tree.lt k hk
  · exact hl.2.1
  · exact hl.2.2 k hk

/-- An index of so many deeds whose keys, in order, are ks; what changes it changes M alone; its data are D. -/
structure Ix (x : Nat) (n : Nat) (ks : List Key) (M D : Nat → Prop) (w : World) : Prop where
  ex : ∃ m t r L S es, IdxAt w x m t n r L false S es ∧ (∀ k, Mut S r L k ↔ M k) ∧ es.map XE.key = ks ∧ (∀ e ∈ es, EOk D w e) ∧ D m
  self : D x
  data : ∀ k, D k → k < w.heap.size ∧ ¬ M k

theorem Ix.lt {x n : Nat} {ks : List Key} {M D : Nat → Prop} {w : World} (h : Ix x n ks M D w) {k : Nat} (hk : M k) : k < w.heap.size := by
  obtain ⟨m, t, r, L, S, es, hi, hM, _⟩ := h.ex
  exact hi.lt.2.2 k ((hM k).2 hk)

theorem Ix.chg {T : Nat → Prop} {x n : Nat} {ks : List Key} {M D : Nat → Prop} {w w' : World} (h : Ix x n ks M D w) (hc : Chg T w w') (hM : ∀ k, M k → ¬ T k) (hD : ∀ k, D k → ¬ T k) : Ix x n ks M D w' := by
  obtain ⟨m, t, r, L, S, es, hi, hm, he, hk, hdm⟩ := h.ex
  exact ⟨⟨m, t, r, L, S, es, hi.chg hc (hD x h.self) (hD m hdm) (fun k hk => hM k ((hm k).1 hk)), hm, he, fun e h => (hk e h).chg hc hD, hdm⟩, h.self, fun k hk => ⟨Nat.lt_of_lt_of_le (h.data k hk).1 hc.size, (h.data k hk).2⟩⟩

theorem Ix.below {x n : Nat} {ks : List Key} {M D : Nat → Prop} {w w' : World} (h : Ix x n ks M D w) (hb : Below w.heap.size w w') : Ix x n ks M D w' := h.chg (Chg.of_below (S := fun _ => False) hb) (fun _ _ h => h) (fun _ _ h => h)

theorem Ix.more {x n : Nat} {ks : List Key} {M D E : Nat → Prop} {w : World} (h : Ix x n ks M D w) (hE : ∀ k, D k → E k) (hd : ∀ k, E k → k < w.heap.size ∧ ¬ M k) : Ix x n ks M E w := by
  obtain ⟨m, t, r, L, S, es, hi, hm, he, hk, hdm⟩ := h.ex
  exact ⟨⟨m, t, r, L, S, es, hi, hm, he, fun e h => (hk e h).mono hE, hE m hdm⟩, hE x h.self, hd⟩

def IxCreateP (x n : Nat) (ks : List Key) (M D : Nat → Prop) (w : World) (y : Ending) (w' : World) : Prop :=
  y = .returned .nilIface ∧ ∃ M', Ix x n ks M' D w' ∧ Chg M w w' ∧ ∀ k, M' k → M k ∨ w.heap.size ≤ k

theorem map_key_ins {es : List XE} {e : XE} {g : Nat} : (es.take g ++ e :: es.drop g).map XE.key = (es.map XE.key).take g ++ e.key :: (es.map XE.key).drop g := by simp [List.map_take, List.map_drop]

theorem ix_create {x n nn : Nat} {ks : List Key} {M D : Nat → Prop} {w : World} (h : Ix x n ks M D w) {us : List VV} {A : Option Addr} {c : Nat} {hd : Int} {vs : List Value} (hI : InsD D w us A vs) (hu : ConcL us) (h0 : 0 ≤ hd) (h1 : hd ≤ 9223372036854775807) (hn : n ≤ 100000) (hlen : ks.length ≤ 12800)
    (hus : us.length = nn) (hks : ∀ k ∈ ks, k.l.length = nn) (hnn : nn ≤ 1000) {g : Nat} (hp : Pos (signK ⟨us, hd⟩ ks) ks.length g false) :
    Calls Tryz.prog 38 #[.pointer (some ⟨x, 0, none⟩), .slice A us.length c, .int .i64 hd] w (IxCreateP x (n + 1) (insK ⟨us, hd⟩ ks) M D w) := by
  obtain ⟨m, t, r, L, S, es, hi, hm, he, hk, hdm⟩ := h.ex
  have hlk : ks.length = es.length := by rw [← he]; simp
  have hat : ∀ (j : Nat) (e' : XE), es[j]? = some e' → ks[j]? = some e'.key := fun j e' hj => by rw [← he, List.getElem?_map, hj]; rfl
  have hme : ∀ (j : Nat) (e' : XE), es[j]? = some e' → EOk D w e' ∧ e'.l.length = nn := fun j e' hj => ⟨hk e' (List.mem_of_getElem? hj), hks e'.key (List.mem_of_getElem? (hat j e' hj))⟩
  have hcr := create_any x m t n r L S es ⟨us, A, us.length, c, hd, 0⟩ rfl g (fun j => match es[j]? with | some e' => collV us e'.l | none => 0) (signK ⟨us, hd⟩ ks) w hi hn (by omega) h0 h1
    (fun w' hc j e' hj => ⟨(hme j e' hj).1.lo, (hme j e' hj).1.hi, fun w'' hb => by
      have hno : ∀ k, D k → ¬ Mut S r L k := fun k hk hM => (h.data k hk).2 ((hm k).1 hM)
      have hI' := hI.chg hc hno
      have i1 : Ins w' us (.slice A us.length c) := ⟨A, c, vs, rfl, hI'.reads, hI'.rep⟩
      have i2 := ((hme j e' hj).1.chg hc hno).ins
      have := collate_any us e'.l (by rw [hus, (hme j e' hj).2]) (by omega) hu (hme j e' hj).1.conc _ _ w'' (i1.below hb) (i2.below hb)
      simp only [hj]
      exact this⟩)
    (fun j e' hj => by
      simp only [hj]
      rw [signK_at (hat j e' hj), collV_lex us e'.l hu.plain (hme j e' hj).1.conc.plain]
      rfl)
    (by rw [← hlk]; exact hp)
  refine hcr.mono ?_
  rintro y w' ⟨rfl, S', L', hi', hc', hM'⟩
  have hxm : ∀ k, D k → ¬ Mut S r L k := fun k hk hM => (h.data k hk).2 ((hm k).1 hM)
  refine ⟨rfl, Mut S' r L', ⟨⟨m, t, r, L', S', _, hi', fun _ => Iff.rfl, ?_, ?_, hdm⟩, h.self, fun k hk => ⟨Nat.lt_of_lt_of_le (h.data k hk).1 hc'.size, fun hM => ?_⟩⟩, hc'.mono (fun k _ hk => (hm k).1 hk), fun k hk => (hM' k hk).imp (hm k).1 id⟩
  · rw [map_key_ins, he, insK_pos hp]
    rfl
  · intro e' he'
    rcases List.mem_append.1 he' with h' | h'
    · exact (hk e' (List.mem_of_mem_take h')).chg hc' hxm
    · rcases List.mem_cons.1 h' with rfl | h'
      · exact ⟨rfl, hu, by simp only; omega, h0, h1, vs, hI.chg hc' hxm⟩
      · exact (hk e' (List.mem_of_mem_drop h')).chg hc' hxm
  · rcases hM' k hM with h' | h'
    · exact hxm k hk h'
    · have := (h.data k hk).1; omega

/-- Rows that came out, of keys. -/
structure AnsRows (B : Nat) (w : World) (ks : List Key) (R : Value) (rs : List RowV) : Prop where
  len : rs.length = ks.length
  own : w.ownsRow B 65 2 R ks.length (flat RowV.cells rs)
  rows : ∀ (j : Nat) (k : Key) (r : RowV), ks[j]? = some k → rs[j]? = some r → RowOk B w k.xe r

theorem AnsRows.chg {B : Nat} {S : Nat → Prop} {w w' : World} {ks : List Key} {R : Value} {rs : List RowV} (h : AnsRows B w ks R rs) (hc : Chg S w w') (hn : ∀ k, B ≤ k → k < w.heap.size → ¬ S k) : AnsRows B w' ks R rs :=
  ⟨h.len, own_chg h.own hc (fun b hb => hn b (own_ge h.own hb) (own_lt h.own hb)), fun j k r hk hr => (h.rows j k r hk hr).chg hc (fun b hb => hn b (own_ge (h.rows j k r hk hr).own hb) (own_lt (h.rows j k r hk hr).own hb))⟩

def IxWalkP (ks : List Key) (b : Nat) (w : World) (y : Ending) (w' : World) : Prop :=
  ∃ R rs, y = .returned (.agg #[.int .i64 0, .bool false, R]) ∧ AnsRows w.heap.size w' ks R rs ∧ Chg (fun z => z = b) w w'

theorem ixwalk_of {n : Int} {es : List XE} {b : Nat} {w : World} {y : Ending} {w' : World} (h : WalkP n false es b w y w') (hn : (es.length : Int) ≤ n) : IxWalkP (es.map XE.key) b w y w' := by
  obtain ⟨R, k, rs, rfl, hown, hlen, hk, hkn, hke, hrows, hc⟩ := h
  obtain rfl : k = es.length := by omega
  refine ⟨R, rs, rfl, ⟨by simp [hlen], by simpa using hown, fun j key r hkey hr => ?_⟩, hc⟩
  rw [List.getElem?_map] at hkey
  obtain ⟨e, he, rfl⟩ := Option.map_eq_some_iff.1 hkey
  have h := hrows j e r he hr
  exact ⟨h.h, h.len, h.outs, h.own⟩

/-- What an index hands out, and what goes through it then. -/
def IxSeekP (ks : List Key) (N : Int) (nx : Bool) (w : World) (y : Ending) (w1 : World) : Prop :=
  ∃ b, y = .returned (.tuple #[.iface 148 (.pointer (some ⟨b, 0, none⟩)), .nilIface]) ∧ w.heap.size ≤ b ∧ Below w.heap.size w w1 ∧
    ∀ w2, Below w1.heap.size w1 w2 → Calls Tryz.prog 45 #[.iface 148 (.pointer (some ⟨b, 0, none⟩)), .nilIface, .int .i64 N, .bool nx, .bool false] w2 (IxWalkP ks b w2)

theorem enum_lt {w : World} {P : List Pg} {b t : Nat} {ver : Int} {uni : Bool} {E : Value} {g : Nat} (h : AtN P w b t ver uni E g) : b < w.heap.size := by
  cases h with
  | at_ _ _ h => exact lt_of_heap h
  | end_ h => exact lt_of_heap h
theorem enum_ltP {w : World} {P : List Pg} {b t : Nat} {ver : Int} {uni : Bool} {E : Value} {g : Nat} (h : AtP P w b t ver uni E g) : b < w.heap.size := by
  cases h with
  | at_ _ _ h => exact lt_of_heap h
  | end_ h => exact lt_of_heap h

theorem ix_hd {D : Nat → Prop} {w w2 : World} {es : List XE} {b : Nat} (hk : ∀ e ∈ es, EOk D w e) (hb : Below w.heap.size w w2) (hD : ∀ k, D k → ¬ k = b) {fs : List XE} (hf : ∀ e ∈ fs, e ∈ es) :
    Hid (∀ (k : Nat) (x : XE) (w1 : World), Chg (fun x => x = b) w2 w1 → fs[k]? = some x → Calls Tryz.prog 56 #[.slice x.A x.m x.p] w1 (OutsPost x.l w1)) := by
  refine Lib.hid fun k x w1 hc hx => ?_
  have h := ((hk x (hf x (List.mem_of_getElem? hx))).chg (Chg.of_below (S := fun _ => False) hb) (fun _ _ h => h)).chg hc hD
  obtain ⟨vs, hd⟩ := h.data
  rw [h.len]
  exact outs_any x.l x.A x.p vs w1 hd.reads hd.rep h.conc.good (by have := h.short; omega)

theorem ix_first {x n : Nat} {ks : List Key} {M D : Nat → Prop} {w : World} (h : Ix x n ks M D w) {E : Value} (hE : HasEof w E) {N : Int} (hN : (ks.length : Int) ≤ N) (hN1 : N ≤ 1000000) (hks : ks ≠ []) :
    Calls Tryz.prog 44 #[.pointer (some ⟨x, 0, none⟩)] w (IxSeekP ks N true w) := by
  obtain ⟨m, t, r, L, S, es, hi, hm, he, hk, hdm⟩ := h.ex
  obtain ⟨P, c, rt, ver, hP, hP0, hch, hsz, ht, hPS, hSt⟩ := tree_pages hi.tree (by rintro rfl; exact hks he.symm)
  refine (first_at (E := E) hch hsz hP0 ht hi.idx).mono ?_
  rintro y w1 ⟨b, rfl, hat, hlo, hb⟩
  refine ⟨b, rfl, hlo, hb, fun w2 hb2 => ?_⟩
  have hb02 := up_below' hb hb2
  have hno : ∀ k, k < w.heap.size → ¬ k = b := fun k hk e => by omega
  have hcF : Chg (fun _ => False) w w2 := Chg.of_below hb02
  have lb1 := enum_lt hat
  have hw := walk_first (P := P) (b := b) (t := t) (ver := ver) (E := E) (w := w2) (n := N) (hit := false) (by omega) hN1 (chain_chg hch hcF (fun _ _ h => h)) hsz (fun p hp => hno _ (chain_lt hch p hp)) (ht.chg hcF id) (hno t (lt_of_heap ht)) (hE.below hb02) (hno _ hE.lt)
    (hat.chg (Chg.of_below (S := fun _ => False) hb2) id) (Nat.lt_of_lt_of_le lb1 hb2.size) (ix_hd hk hb02 (fun k hk => hno k (h.data k hk).1) (fun e he' => by rw [hP] at he'; exact he'))
  refine hw.mono ?_
  intro y w' hP'
  rw [hP] at hP'
  have := ixwalk_of hP' (by rw [← he] at hN; simpa using hN)
  rw [he] at this
  exact this

theorem ix_last {x n : Nat} {ks : List Key} {M D : Nat → Prop} {w : World} (h : Ix x n ks M D w) {E : Value} (hE : HasEof w E) {N : Int} (hN : (ks.length : Int) ≤ N) (hN1 : N ≤ 1000000) (hks : ks ≠ []) :
    Calls Tryz.prog 46 #[.pointer (some ⟨x, 0, none⟩)] w (IxSeekP ks.reverse N false w) := by
  obtain ⟨m, t, r, L, S, es, hi, hm, he, hk, hdm⟩ := h.ex
  obtain ⟨P, c, rt, ver, hP, hP0, hch, hsz, ht, hPS, hSt⟩ := tree_pages hi.tree (by rintro rfl; exact hks he.symm)
  refine (last_at (E := E) hch hsz hP0 ht hi.idx).mono ?_
  rintro y w1 ⟨b, rfl, hat, hlo, hb⟩
  refine ⟨b, rfl, hlo, hb, fun w2 hb2 => ?_⟩
  have hb02 := up_below' hb hb2
  have hno : ∀ k, k < w.heap.size → ¬ k = b := fun k hk e => by omega
  have hcF : Chg (fun _ => False) w w2 := Chg.of_below hb02
  have lb1 := enum_ltP hat
  have hw := walk_last (P := P) (b := b) (t := t) (ver := ver) (E := E) (w := w2) (n := N) (hit := false) (by omega) hN1 (chain_chg hch hcF (fun _ _ h => h)) hsz (fun p hp => hno _ (chain_lt hch p hp)) (ht.chg hcF id) (hno t (lt_of_heap ht)) (hE.below hb02) (hno _ hE.lt)
    (hat.chg (Chg.of_below (S := fun _ => False) hb2) id) (Nat.lt_of_lt_of_le lb1 hb2.size) (ix_hd hk hb02 (fun k hk => hno k (h.data k hk).1) (fun e he' => by rw [hP] at he'; simpa using he'))
  refine hw.mono ?_
  intro y w' hP'
  rw [hP] at hP'
  have := ixwalk_of hP' (by rw [← he] at hN; simpa using hN)
  rw [List.map_reverse, he] at this
  exact this

end Go.Proofs.YtffgkocokkhahaaGreatDoor

/- Lists of rows in memory. -/
namespace Go.Proofs.YtffgkocokkhahaaGreatDoor
open Go.RowKit

theorem RowV.two (r : RowV) : r.cells.length = 2 := rfl
theorem VV.five (x : VV) : x.cells.length = 5 := rfl

theorem add_off (a : Addr) (k j : Nat) (hj : j ≠ 0) : a.add (k + j) = ⟨(a.add k).block, (a.add k).off + j, none⟩ := by
  unfold Addr.add
  by_cases hk : k = 0
  · subst hk
    rw [if_neg (by omega), if_pos rfl, Nat.zero_add]
  · rw [if_neg (by omega), if_neg hk, Nat.add_assoc]

/-- Rows lie in memory, each with its values. -/
def RowsAt (w : World) (A : Option Addr) (rows : List RowV) : Prop :=
  ∀ (i : Nat) (r : RowV), rows[i]? = some r → (∃ ad, A = some ad ∧ (ad.add (i * 2)).block < w.heap.size ∧ w.cell? (ad.add (i * 2)) = some (.slice r.A r.us.length r.c) ∧ w.cell? ⟨(ad.add (i * 2)).block, (ad.add (i * 2)).off + 1, none⟩ = some (.int .i64 r.h)) ∧ LAt w r.A r.us

theorem RowsAt.below {w w' : World} {A : Option Addr} {rows : List RowV} (h : RowsAt w A rows) (hb : Below w.heap.size w w') : RowsAt w' A rows := by
  intro i r hr
  obtain ⟨⟨ad, rfl, hlt, h0, h1⟩, hl⟩ := h i r hr
  refine ⟨⟨ad, rfl, Nat.lt_of_lt_of_le hlt hb.size, ?_, ?_⟩, hl.below hb⟩
  all_goals (rw [hb.cell (by exact hlt)]; assumption)

theorem lat_reads {w : World} {A : Option Addr} {l : List VV} {n : Nat} (h : Reads w w.heap.size 5 A n (flat VV.cells l)) (hn : l.length = n) : LAt w A l := by
  intro i x hx
  have hi := (List.getElem?_eq_some_iff.1 hx).1
  obtain ⟨ad, rfl, hlt, hc⟩ := h.2 (by omega)
  have hat : ∀ (j : Nat) (v : Value), j < 5 → x.cells[j]? = some v → w.cell? (ad.add (i * 5 + j)) = some v := fun j v hj hv => hc _ _ (flat_at VV.cells 5 VV.five l i x j v hx hj hv)
  refine ⟨ad, rfl, by rw [block_add]; exact hlt, hat 0 _ (by omega) rfl, ?_, ?_, ?_, ?_⟩
  · rw [← add_off ad (i * 5) 1 (by decide)]; exact hat 1 _ (by omega) rfl
  · rw [← add_off ad (i * 5) 2 (by decide)]; exact hat 2 _ (by omega) rfl
  · rw [← add_off ad (i * 5) 3 (by decide)]; exact hat 3 _ (by omega) rfl
  · rw [← add_off ad (i * 5) 4 (by decide)]; exact hat 4 _ (by omega) rfl

theorem lat_own {w : World} {B n c : Nat} {e : TypeId} {A : Option Addr} {l : List VV} (h : w.ownsRow B e 5 (.slice A n c) n (flat VV.cells l)) (hn : l.length = n) : LAt w A l := lat_reads (Reads.of_own h) hn

theorem rows_reads {w : World} {A : Option Addr} {rows : List RowV} {n : Nat} (h : Reads w w.heap.size 2 A n (flat RowV.cells rows)) (hn : rows.length = n) (hv : ∀ (i : Nat) (r : RowV), rows[i]? = some r → LAt w r.A r.us) : RowsAt w A rows := by
  intro i r hr
  have hi := (List.getElem?_eq_some_iff.1 hr).1
  obtain ⟨ad, rfl, hlt, hc⟩ := h.2 (by omega)
  have hat : ∀ (j : Nat) (v : Value), j < 2 → r.cells[j]? = some v → w.cell? (ad.add (i * 2 + j)) = some v := fun j v hj hv => hc _ _ (flat_at RowV.cells 2 RowV.two rows i r j v hr hj hv)
  refine ⟨⟨ad, rfl, by rw [block_add]; exact hlt, hat 0 _ (by omega) rfl, ?_⟩, hv i r hr⟩
  rw [← add_off ad (i * 2) 1 (by decide)]; exact hat 1 _ (by omega) rfl

theorem rows_own {w : World} {B n c : Nat} {e : TypeId} {A : Option Addr} {rows : List RowV} (h : w.ownsRow B e 2 (.slice A n c) n (flat RowV.cells rows)) (hn : rows.length = n) (hv : ∀ (i : Nat) (r : RowV), rows[i]? = some r → LAt w r.A r.us) : RowsAt w A rows := rows_reads (Reads.of_own h) hn hv

/-- A row whose fields are those of its types. -/
structure RowRng (r : RowV) : Prop where
  vals : ∀ (j : Nat) (x : VV), r.us[j]? = some x → Rng x.n x.u x.f
  len : r.us.length ≤ maxLen
  h : (Lit.int .i64 r.h).wf = true

theorem RowRng.hi {r : RowV} (h : RowRng r) : r.h ≤ 9223372036854775807 := by
  have hn := h.h
  simp only [Lit.wf, Bool.and_eq_true, decide_eq_true_eq, IntKind.min, IntKind.max, IntKind.signed, IntKind.bits, if_true, Nat.reduceSub, Int.reducePow, Int.reduceSub, Int.reduceNeg] at hn
  exact hn.2

/-- Rows that came out lie in memory. -/
theorem AnsRows.at_ {B : Nat} {w : World} {ks : List Key} {A : Option Addr} {n c : Nat} {rs : List RowV} (h : AnsRows B w ks (.slice A n c) rs) : RowsAt w A rs ∧ n = rs.length := by
  have hn : n = ks.length := by
    obtain ⟨A', c', e⟩ := own_form h.own
    injection e
  refine ⟨rows_own (n := n) (c := c) (by have := h.own; rw [← hn] at this; exact this) (by rw [h.len, hn]) (fun i r hr => ?_), by rw [h.len, hn]⟩
  have hi := (List.getElem?_eq_some_iff.1 hr).1
  have hi2 : i < ks.length := by rw [← h.len]; exact hi
  have := h.rows i ks[i] r (List.getElem?_eq_getElem hi2) hr
  exact lat_own this.own rfl

end Go.Proofs.YtffgkocokkhahaaGreatDoor

/- A row put among rows; rows in order. No program. -/
namespace Go.Proofs.YtffgkocokkhahaaGreatDoor
open Go.RowKit

theorem ins_cells {rows : List RowV} {r : RowV} {zc rest : List Value} (hz : zc.length = 2) {k : Nat} (hk : k ≤ rows.length) :
    splice (splice (flat RowV.cells rows ++ (zc ++ rest)) ((k + 1) * 2) (flat RowV.cells (rows.drop k))) (k * 2) r.cells = flat RowV.cells (rows.take k ++ r :: rows.drop k) ++ rest := by
  have hT : (flat RowV.cells (rows.take k)).length = k * 2 := by rw [flat_length RowV.cells 2 RowV.two, List.length_take]; omega
  have e1 : flat RowV.cells rows = flat RowV.cells (rows.take k) ++ flat RowV.cells (rows.drop k) := by rw [← flat_append, List.take_append_drop]
  rw [flat_append, flat_cons, e1]
  generalize flat RowV.cells (rows.take k) = T at *
  generalize flat RowV.cells (rows.drop k) = D at *
  have e2 : T ++ D ++ (zc ++ rest) = (T ++ (D ++ zc).take 2) ++ ((D ++ zc).drop 2 ++ rest) := by
    have : (D ++ zc).take 2 ++ ((D ++ zc).drop 2 ++ rest) = D ++ (zc ++ rest) := by rw [← List.append_assoc, List.take_append_drop, List.append_assoc]
    rw [List.append_assoc, List.append_assoc, this]
  have h2 : ((D ++ zc).take 2).length = 2 := by simp [hz]
  have h3 : ((D ++ zc).drop 2).length = D.length := by simp [hz]
  rw [e2, splice_mid _ _ _ D _ (by simp only [List.length_append, h2, hT]; omega) h3, List.append_assoc, splice_mid T _ (D ++ rest) r.cells _ hT.symm (by rw [h2]; rfl)]
  simp

theorem map_key_insR {rows : List RowV} {r : RowV} {g : Nat} : (rows.take g ++ r :: rows.drop g).map RowV.key = (rows.map RowV.key).take g ++ r.key :: (rows.map RowV.key).drop g := by simp [List.map_take, List.map_drop]

/-- Rows of as many values each, which can be compared; no two of one handle. -/
structure RowsGood (rows : List RowV) (n : Nat) : Prop where
  keys : KeysOk (rows.map RowV.key) n
  conc : ∀ r ∈ rows, ConcL r.us
  lo : ∀ r ∈ rows, 1 ≤ r.h
  hi : ∀ r ∈ rows, r.h ≤ 9223372036854775807

theorem RowsGood.len {rows : List RowV} {n : Nat} (h : RowsGood rows n) {r : RowV} (hr : r ∈ rows) : r.us.length = n := h.keys.len r.key (List.mem_map.2 ⟨r, hr, rfl⟩)

end Go.Proofs.YtffgkocokkhahaaGreatDoor

/- Deeds to an index and their answers, in memory. -/
namespace Go.Proofs.YtffgkocokkhahaaGreatDoor
open Go.RowKit

def createS : ByteArray := ⟨#[99, 114, 101, 97, 116, 101]⟩
def firstS : ByteArray := ⟨#[102, 105, 114, 115, 116]⟩
def lastS : ByteArray := ⟨#[108, 97, 115, 116]⟩

structure DeedV where
  op : ByteArray
  A : Option Addr
  c : Nat
  h : Int
  N : Int
  us : List VV
def DeedV.cells (d : DeedV) : List Value := [.string d.op, .slice d.A d.us.length d.c, .int .i64 d.h, .int .i64 d.N]
theorem DeedV.four (d : DeedV) : d.cells.length = 4 := rfl

def RowV.deed (r : RowV) : DeedV := ⟨createS, r.A, r.c, r.h, 0, r.us⟩
def endDeed (N : Int) (b : Bool) : DeedV := ⟨if b then firstS else lastS, none, 0, 0, N, []⟩

/-- Deeds lie in memory, each with its values. -/
def DeedsAt (w : World) (A : Option Addr) (ds : List DeedV) : Prop :=
  ∀ (i : Nat) (d : DeedV), ds[i]? = some d → (∃ ad, A = some ad ∧ (ad.add (i * 4)).block < w.heap.size ∧ w.cell? (ad.add (i * 4)) = some (.string d.op) ∧ w.cell? ⟨(ad.add (i * 4)).block, (ad.add (i * 4)).off + 1, none⟩ = some (.slice d.A d.us.length d.c) ∧
    w.cell? ⟨(ad.add (i * 4)).block, (ad.add (i * 4)).off + 2, none⟩ = some (.int .i64 d.h) ∧ w.cell? ⟨(ad.add (i * 4)).block, (ad.add (i * 4)).off + 3, none⟩ = some (.int .i64 d.N)) ∧ LAt w d.A d.us

theorem DeedsAt.below {w w' : World} {A : Option Addr} {ds : List DeedV} (h : DeedsAt w A ds) (hb : Below w.heap.size w w') : DeedsAt w' A ds := by
  intro i r hr
  obtain ⟨⟨ad, rfl, hlt, h0, h1, h2, h3⟩, hl⟩ := h i r hr
  refine ⟨⟨ad, rfl, Nat.lt_of_lt_of_le hlt hb.size, ?_, ?_, ?_, ?_⟩, hl.below hb⟩
  all_goals (rw [hb.cell (by exact hlt)]; assumption)

theorem deeds_reads {w : World} {A : Option Addr} {ds : List DeedV} {n : Nat} (h : Reads w w.heap.size 4 A n (flat DeedV.cells ds)) (hn : ds.length = n) (hv : ∀ d ∈ ds, LAt w d.A d.us) : DeedsAt w A ds := by
  intro i r hr
  have hi := (List.getElem?_eq_some_iff.1 hr).1
  obtain ⟨ad, rfl, hlt, hc⟩ := h.2 (by omega)
  have hat : ∀ (j : Nat) (v : Value), j < 4 → r.cells[j]? = some v → w.cell? (ad.add (i * 4 + j)) = some v := fun j v hj hv => hc _ _ (flat_at DeedV.cells 4 DeedV.four ds i r j v hr hj hv)
  refine ⟨⟨ad, rfl, by rw [block_add]; exact hlt, hat 0 _ (by omega) rfl, ?_, ?_, ?_⟩, hv r (List.mem_of_getElem? hr)⟩
  · rw [← add_off ad (i * 4) 1 (by decide)]; exact hat 1 _ (by omega) rfl
  · rw [← add_off ad (i * 4) 2 (by decide)]; exact hat 2 _ (by omega) rfl
  · rw [← add_off ad (i * 4) 3 (by decide)]; exact hat 3 _ (by omega) rfl

structure AnsV where
  R : Value
  rs : List RowV
def AnsV.cells (a : AnsV) : List Value := [.int .i64 0, .bool false, a.R]
theorem AnsV.three (a : AnsV) : a.cells.length = 3 := rfl

/-- An answer's memory lies among D. -/
structure AnsIn (D : Nat → Prop) (a : AnsV) : Prop where
  R : ∀ b, a.R.ownBlock = some b → D b
  rs : ∀ r ∈ a.rs, ∀ b, (Value.slice r.A r.us.length r.c).ownBlock = some b → D b
theorem AnsIn.mono {D E : Nat → Prop} {a : AnsV} (h : AnsIn D a) (hn : ∀ k, D k → E k) : AnsIn E a := ⟨fun b hb => hn b (h.R b hb), fun r hr b hb => hn b (h.rs r hr b hb)⟩

theorem AnsRows.in_ {B : Nat} {w : World} {ks : List Key} {a : AnsV} (h : AnsRows B w ks a.R a.rs) : AnsIn (fun k => B ≤ k ∧ k < w.heap.size) a := by
  refine ⟨fun b hb => ⟨own_ge h.own hb, own_lt h.own hb⟩, fun r hr b hb => ?_⟩
  obtain ⟨i, hi, rfl⟩ := List.getElem_of_mem hr
  have hi2 : i < ks.length := by rw [← h.len]; exact hi
  have := h.rows i ks[i] _ (List.getElem?_eq_getElem hi2) (List.getElem?_eq_getElem hi)
  exact ⟨own_ge this.own hb, own_lt this.own hb⟩
theorem AnsRows.keep {B : Nat} {S D : Nat → Prop} {w w' : World} {ks : List Key} {a : AnsV} (h : AnsRows B w ks a.R a.rs) (hi : AnsIn D a) (hc : Chg S w w') (hn : ∀ k, D k → ¬ S k) : AnsRows B w' ks a.R a.rs :=
  ⟨h.len, own_chg h.own hc (fun b hb => hn b (hi.R b hb)), fun j k r hk hr => (h.rows j k r hk hr).chg hc (fun b hb => hn b (hi.rs r (List.mem_of_getElem? hr) b hb))⟩
theorem AnsRows.mono {B C : Nat} {w : World} {ks : List Key} {R : Value} {rs : List RowV} (h : AnsRows B w ks R rs) (hb : C ≤ B) : AnsRows C w ks R rs :=
  ⟨h.len, own_mono h.own hb, fun j k r hk hr => by have g := h.rows j k r hk hr; exact ⟨g.h, g.len, g.outs, own_mono g.own hb⟩⟩

def want (ks : List Key) (b : Bool) : List Key := if b then sortK ks else (sortK ks).reverse

/-- The answers to so many deeds: each row created, then what is found from the ends. -/
structure Answers (B : Nat) (w : World) (ks : List Key) (tl : List Bool) (av : List AnsV) : Prop where
  nil : ∀ (j : Nat) (a : AnsV), j < ks.length → av[j]? = some a → a.R = .slice none 0 0
  rows : ∀ (j : Nat) (b : Bool) (a : AnsV), tl[j]? = some b → av[ks.length + j]? = some a → AnsRows B w (want ks b) a.R a.rs

theorem want_length (ks : List Key) (b : Bool) : (want ks b).length = ks.length := by unfold want; split <;> simp [length_sortK]

end Go.Proofs.YtffgkocokkhahaaGreatDoor

/- laws.zzFits16 (as Sl7, without impl.KeyCompare); a list of one value in new memory. -/
namespace Go.Proofs.YtffgkocokkhahaaGreatDoor
open Go.RowKit

theorem lat_new (w : World) (x : VV) (t : TypeId) : LAt (w.alloc (.cells #[.string x.k, .int .i64 x.n, .int .u64 x.u, .float .f64 x.f, .string x.s] t)) (some ⟨w.heap.size, 0, none⟩) [x] := by
  intro i y hy
  cases i with
  | zero =>
    obtain rfl : x = y := by simpa using hy
    exact ⟨_, rfl, by show w.heap.size < _; simp, World.cell?_alloc_mark w _ t (0, 0) 0, World.cell?_alloc_mark w _ t (0, 0) 1, World.cell?_alloc_mark w _ t (0, 0) 2, World.cell?_alloc_mark w _ t (0, 0) 3, World.cell?_alloc_mark w _ t (0, 0) 4⟩
  | succ i => simp at hy

def numV (n : Int) : VV := ⟨int64S, n, 0, 0, empS⟩
theorem numV_conc : ConcL [numV 1] ∧ ConcL [numV 2] ∧ collV [numV 1] [numV 2] = -1 := by
  refine ⟨fun j x hx => ?_, fun j x hx => ?_, by decide +kernel⟩
  all_goals
    cases j with
    | zero =>
      obtain rfl := (Option.some.inj hx)
      exact ⟨by decide +kernel, by simp [numV, Rng]⟩
    | succ j => simp at hx

set_option maxHeartbeats 400000 in
theorem zzFits16_any (l : List VV) (A : Option Addr) (c : Nat) (h : Int) (w : World) (hl : LAt w A l) :
    Calls Tryz.prog 23 #[.agg #[.slice A l.length c, .int .i64 h]] w fun e w' => e = .returned (.bool (fits2B l)) ∧ Below w.heap.size w w' := by
  cases hf : fits2B l with
  | false =>
    have HZ := Lib.hid (fun w' (hb : Below w.heap.size w w') => show Calls Tryz.prog 28 #[.slice A l.length c] w' fun e w'' => e = .returned (.bool false) ∧ Below w'.heap.size w' w'' by rw [← hf]; exact zzFits2_any l A c w' (hl.below hb))
    clear hl hf
    go_enter Tryz.func23, Tryz.ntmps23
    go_wp2_with (go_at_call 28; refine (HZ.out _ ((Below.refl _ _).alloc (Nat.le_refl _) _)).mono ?_; rintro e w1 ⟨rfl, hb1⟩)
    go_ret
    exact ⟨rfl, up_below' ((Below.refl _ _).alloc (Nat.le_refl _) _) hb1⟩
  | true =>
    have HZ := Lib.hid (fun w' (hb : Below w.heap.size w w') => show Calls Tryz.prog 28 #[.slice A l.length c] w' fun e w'' => e = .returned (.bool true) ∧ Below w'.heap.size w' w'' by rw [← hf]; exact zzFits2_any l A c w' (hl.below hb))
    clear hl hf
    go_enter Tryz.func23, Tryz.ntmps23
    go_wp2_with (go_at_call 28; refine (HZ.out _ ((Below.refl _ _).alloc (Nat.le_refl _) _)).mono ?_; rintro e w1 ⟨rfl, hb1⟩)
    go_ret
    exact ⟨rfl, up_below' ((Below.refl _ _).alloc (Nat.le_refl _) _) hb1⟩

end Go.Proofs.YtffgkocokkhahaaGreatDoor

/- laws.zzFits17, laws.isKey, laws.filled. -/
namespace Go.Proofs.YtffgkocokkhahaaGreatDoor
open Go.RowKit

def fits17B (rows : List RowV) : Bool := decide (rows.length ≤ 2147483647) && rows.all fun r => fits2B r.us

set_option maxHeartbeats 1000000 in
theorem zzFits17_any (rows : List RowV) (A : Option Addr) (c : Nat) (w : World) (hl : RowsAt w A rows) :
    Calls Tryz.prog 10 #[.slice A rows.length c] w fun e w' => e = .returned (.bool (fits17B rows)) ∧ Below w.heap.size w w' := by
  obtain ⟨len, hlen⟩ : ∃ len, len = rows.length := ⟨_, rfl⟩
  have HL := Lib.hid hl
  have HN := Lib.hid hlen
  rw [← hlen]
  have HB : Hid (2147483647 < len → fits17B rows = false) := fun h => by unfold fits17B; rw [← hlen]; simp; omega
  have HE : Hid (∀ (k : Nat) (x : RowV), rows[k]? = some x → fits2B x.us = false → fits17B rows = false) := fun k x hx hf => by
    unfold fits17B
    rw [Bool.and_eq_false_iff]
    right
    rw [List.all_eq_false]
    exact ⟨x, List.mem_of_getElem? hx, by rw [hf]; decide⟩
  have HY : Hid (len ≤ 2147483647 → (∀ j x, j < len → rows[j]? = some x → fits2B x.us = true) → fits17B rows = true) := fun h1 h2 => by
    unfold fits17B
    rw [Bool.and_eq_true, decide_eq_true_eq, List.all_eq_true]
    refine ⟨by omega, fun x hx => ?_⟩
    obtain ⟨j, hj, rfl⟩ := List.getElem_of_mem hx
    exact h2 j _ (by omega) (List.getElem?_eq_getElem hj)
  clear hl hlen
  go_enter Tryz.func10, Tryz.ntmps10
  have HF := Lib.hid (fun (r : RowV) (b : Bool) (h : fits2B r.us = b) (w : World) (hl : LAt w r.A r.us) => show Calls Tryz.prog 23 #[.agg #[.slice r.A r.us.length r.c, .int .i64 r.h]] w fun e w' => e = .returned (.bool b) ∧ Below w.heap.size w w' by rw [← h]; exact zzFits16_any r.us r.A r.c r.h w hl)
  go_wp2
  · go_ret
    exact ⟨by rw [HB.out (by omega)]; rfl, Below.refl _ _⟩
  go_loopw [10] (fun i wr => ∃ k : Nat, k ≤ len ∧ i = .int .i64 k ∧ Below w.heap.size w wr ∧ ∀ j x, j < k → rows[j]? = some x → fits2B x.us = true) (fun i _ => len - (intOf i).toNat)
  case atStart => exact ⟨0, by omega, rfl, Below.refl _ _, fun _ _ h => by omega⟩
  case round =>
    obtain ⟨k, hk, rfl, hb, hall⟩ := hrel
    have HA := Lib.hid hall
    clear hall
    by_cases hlt : k < len
    · obtain ⟨x, hx'⟩ : ∃ x, rows[k]? = some x := ⟨_, List.getElem?_eq_getElem (by rw [← HN.out]; exact hlt)⟩
      have HX := Lib.hid hx'
      obtain ⟨⟨ad, rfl, hbl, h0, h1⟩, hl⟩ := (HL.out.below hb) k x hx'
      have HLA := Lib.hid hl
      clear hx' hl
      have hs := hb.size
      cases hf : fits2B x.us with
      | false =>
        have HW := Lib.hid (HF.out x false hf)
        have hf' := Lib.hid hf
        clear hf
        go_wp2_with (go_at_call 23; refine (HW.out _ (HLA.out.below ((Below.refl _ _).alloc (Nat.le_refl _) _))).mono ?_; rintro e w1 ⟨rfl, hb1⟩)
        go_ret
        exact ⟨by rw [HE.out k x HX.out hf'.out]; rfl, up_below' (hb.alloc hb.size _) hb1⟩
      | true =>
        have HW := Lib.hid (HF.out x true hf)
        have hf' := Lib.hid hf
        clear hf
        go_wp2_with (go_at_call 23; refine (HW.out _ (HLA.out.below ((Below.refl _ _).alloc (Nat.le_refl _) _))).mono ?_; rintro e w1 ⟨rfl, hb1⟩)
        refine ⟨⟨k + 1, by omega, by push_cast; rfl, up_below' (hb.alloc hb.size _) hb1, fun j y hj hy => ?_⟩, by simp [intOf]; omega⟩
        rcases Nat.lt_or_ge j k with h | h
        · exact HA.out j y h hy
        · obtain rfl : j = k := by omega
          obtain rfl : y = x := Option.some.inj (hy.symm.trans HX.out)
          exact hf'.out
    · have hke : k = len := by omega
      subst hke
      go_wp2
      go_ret
      exact ⟨by rw [HY.out (by omega) HA.out]; rfl, hb⟩

def isKeyB (l : List VV) (n : Int) : Bool := ((l.length : Int) == n) && concL l n

set_option maxHeartbeats 1000000 in
theorem isKey_any (l : List VV) (A : Option Addr) (c : Nat) (n : Int) (w : World) (hl : LAt w A l) (hm : l.length ≤ 9223372036854775807) :
    Calls Tryz.prog 24 #[.slice A l.length c, .int .i64 n] w fun e w' => e = .returned (.bool (isKeyB l n)) ∧ Below w.heap.size w w' := by
  have HA := Lib.hid (allConcrete_any l A c n w hl hm)
  clear hl
  cases h : ((l.length : Int) == n) with
  | false =>
    have e : isKeyB l n = false := by unfold isKeyB; rw [h]; rfl
    rw [e]
    clear e
    go_enter Tryz.func24, Tryz.ntmps24
    go_wp2
    go_ret
    exact ⟨rfl, Below.refl _ _⟩
  | true =>
    have e : isKeyB l n = concL l n := by unfold isKeyB; rw [h]; rfl
    rw [e]
    clear e
    go_enter Tryz.func24, Tryz.ntmps24
    go_wp2_with (go_at_call 18; refine HA.out.mono ?_; rintro e w1 ⟨rfl, hb1⟩)
    go_ret
    exact ⟨rfl, hb1⟩

theorem isKey_conc {r : RowV} {n : Int} (h : isKeyB r.us n = true) (hr : RowRng r) : (r.us.length : Int) = n ∧ ConcL r.us := by
  unfold isKeyB at h
  rw [Bool.and_eq_true] at h
  obtain ⟨h1, h2⟩ := h
  unfold concL at h2
  rw [Bool.and_eq_true, List.all_eq_true] at h2
  exact ⟨by simpa using h1, fun j x hx => ⟨h2.2 x (List.mem_of_getElem? hx), hr.vals j x hx⟩⟩

theorem info_ideed : (Tryz.prog.info? 43).map (fun i => (i.zero, i.size, i.bytes)) = some (some (.agg #[.string ⟨#[]⟩, .slice none 0 0, .int .i64 0, .int .i64 0]), 4, 56) := by kernel_rfl

def FilledP (rows : List RowV) (n : Int) (w : World) (y : Ending) (w' : World) : Prop :=
  (y = .returned (.tuple #[.slice none 0 0, .bool false]) ∧ Below w.heap.size w w') ∨
  ∃ A c nn, y = .returned (.tuple #[.slice A rows.length c, .bool true]) ∧ w'.ownsRow w.heap.size 43 4 (.slice A rows.length c) rows.length (flat DeedV.cells (rows.map RowV.deed)) ∧ Below w.heap.size w w' ∧ rows.length ≤ 600 ∧ n = (nn : Nat) ∧ 1 ≤ nn ∧ nn ≤ 3 ∧ RowsGood rows nn

theorem good_of {rows : List RowV} {n : Int} {nn : Nat} (hn : n = nn) (hr : ∀ r ∈ rows, RowRng r) (h1 : ∀ (j : Nat) (r : RowV), j < rows.length → rows[j]? = some r → isKeyB r.us n = true ∧ 1 ≤ r.h) (h2 : ∀ (i j : Nat) (a b : RowV), i < j → j < rows.length → rows[i]? = some a → rows[j]? = some b → (a.h == b.h) = false) : RowsGood rows nn := by
  have hm : ∀ r ∈ rows, isKeyB r.us n = true ∧ 1 ≤ r.h := fun r hr => by
    obtain ⟨j, hj, rfl⟩ := List.getElem_of_mem hr
    exact h1 j _ hj (List.getElem?_eq_getElem hj)
  refine ⟨⟨fun x hx => ?_, fun i j a b hij ha hb => ?_⟩, fun r hr' => (isKey_conc (hm r hr').1 (hr r hr')).2, fun r hr' => (hm r hr').2, fun r hr' => (hr r hr').hi⟩
  · obtain ⟨r, hr', rfl⟩ := List.mem_map.1 hx
    have := (isKey_conc (hm r hr').1 (hr r hr')).1
    show r.us.length = nn
    omega
  · rw [List.getElem?_map] at ha hb
    obtain ⟨p, hp, rfl⟩ := Option.map_eq_some_iff.1 ha
    obtain ⟨q, hq, rfl⟩ := Option.map_eq_some_iff.1 hb
    have := h2 i j p q hij (List.getElem?_eq_some_iff.1 hq).1 hp hq
    show p.h ≠ q.h
    simpa using this

end Go.Proofs.YtffgkocokkhahaaGreatDoor

/- A valid value that is brought (as Back, without a law's walk) into the database and out again is the same. No condition but that it is valid. -/
namespace Go.Proofs.YtffgkocokkhahaaGreatDoor
open Go.RowKit

theorem zeros_b {f : Nat} {s : ByteArray} (h : zeros f s = true) : bitsV f = 0 ∧ s.toList = [] := by
  unfold zeros at h
  simp only [Bool.and_eq_true, beq_iff_eq, List.isEmpty_iff] at h
  exact h
theorem nil_toList : (⟨#[]⟩ : ByteArray).toList = [] := by decide +kernel
theorem bitsV_0 : bitsV 0 = 0 := by decide +kernel

theorem ba_eta (s : ByteArray) : (⟨s.data.toList.toArray⟩ : ByteArray) = s := by simp

/-- In and out again: the same. -/
theorem back_same {k : ByteArray} {n u : Int} {f : Nat} {s : ByteArray} {x : SV} {g : Nat} (hv : validB (Kd.of k.toList) n u f s = true) (hsv : SVof (Kd.of k.toList) n u f s x) (hg : FOut x g) :
    sameB x.nm x.oN x.oU g x.oS k n u f s = true := by
  have hko : Kd.of k.toList ≠ .other := fun h => by rw [h] at hv; exact absurd hv (by simp [validB])
  have hl := Kd.of_lit _ rfl hko
  generalize hK : Kd.of k.toList = K at hv hsv hl hko
  clear hK
  unfold sameB
  rw [hl]
  unfold SVof at hsv
  split at hsv
  · rename_i hc
    obtain ⟨y, rfl, hn, _⟩ := hsv
    obtain ⟨rfl, hnb⟩ := hc
    unfold FOut at hg
    rw [if_pos (by exact hn)] at hg
    rw [numB_nan] at hnb
    rw [bitsV_nan hg.1, bitsV_nan (f := f) (by simpa using hnb)]
    simp only [validB, Bool.and_eq_true, beq_iff_eq, List.isEmpty_iff] at hv
    obtain ⟨⟨⟨h1, h2⟩, h3⟩, _⟩ := hv
    subst h1 h2
    rw [h3]
    simp only [SV.nm, SV.oN, SV.oU, SV.oS]
    decide +kernel
  · rename_i hc
    subst hsv
    unfold FOut at hg
    cases K with
    | other => exact absurd rfl hko
    | null =>
      rw [if_neg (by simp [toSV, SV.isN32])] at hg
      simp only [validB, Bool.and_eq_true, beq_iff_eq] at hv
      obtain ⟨⟨rfl, rfl⟩, h3⟩ := hv
      obtain ⟨e1, e2⟩ := zeros_b h3
      rw [hg, e1, e2]
      simp only [toSV, SV.nm, SV.oN, SV.oU, SV.oF, SV.oS]
      decide +kernel
    | bool =>
      rw [if_neg (by simp [toSV, SV.isN32])] at hg
      simp only [validB, Bool.and_eq_true, Bool.or_eq_true, beq_iff_eq] at hv
      obtain ⟨⟨rfl, h3⟩, h4⟩ := hv
      obtain ⟨e1, e2⟩ := zeros_b h3
      rw [hg, e1, e2]
      simp only [toSV, SV.nm, SV.oN, SV.oU, SV.oF, SV.oS]
      rcases h4 with rfl | rfl <;> decide +kernel
    | int q =>
      rw [if_neg (by simp [toSV, SV.isN32])] at hg
      cases q <;>
      · simp only [validB, Bool.and_eq_true, beq_iff_eq] at hv
        obtain ⟨e1, e2⟩ := zeros_b (by first | exact hv.1.2 | exact hv.2)
        rw [hg, e1, e2]
        have h1 := (by first | exact hv.1.1 | exact hv.1)
        subst h1
        simp only [toSV, SV.nm, SV.oN, SV.oU, SV.oF, SV.oS, IntKind.signed, if_true, if_false, Bool.false_eq_true, bitsV_0, nil_toList]
        simp [Kd.lit]
        try decide +kernel
    | f32 =>
      have hnb : numB f = true := by
        cases h : numB f with
        | true => rfl
        | false => exact absurd ⟨rfl, h⟩ hc
      have hnn : (Ieee.double.read f).isNaN = false := by rw [numB_nan] at hnb; simpa using hnb
      rw [if_neg (by simp only [toSV, SV.isN32]; rw [down_num hnn]; simp)] at hg
      simp only [validB, single64, hnb, Bool.and_eq_true, beq_iff_eq, List.isEmpty_iff, Bool.not_true, Bool.false_or] at hv
      obtain ⟨⟨⟨rfl, rfl⟩, h3⟩, h4, _⟩ := hv
      rw [hg, h3]
      simp only [toSV, SV.nm, SV.oN, SV.oU, SV.oF, SV.oS, nil_toList]
      rw [h4]
      simp [Kd.lit]
      try decide +kernel
    | f64 =>
      rw [if_neg (by simp [toSV, SV.isN32])] at hg
      simp only [validB, Bool.and_eq_true, beq_iff_eq, List.isEmpty_iff] at hv
      obtain ⟨⟨rfl, rfl⟩, h3⟩ := hv
      rw [hg, h3]
      simp only [toSV, SV.nm, SV.oN, SV.oU, SV.oF, SV.oS, nil_toList]
      simp [Kd.lit]
      try decide +kernel
    | str =>
      rw [if_neg (by simp [toSV, SV.isN32])] at hg
      simp only [validB, Bool.and_eq_true, beq_iff_eq] at hv
      obtain ⟨⟨⟨rfl, rfl⟩, h3⟩, _⟩ := hv
      rw [hg, h3]
      simp only [toSV, SV.nm, SV.oN, SV.oU, SV.oF, SV.oS, bitsV_0]
      simp [Kd.lit]
      try decide +kernel
    | blob =>
      rw [if_neg (by simp [toSV, SV.isN32])] at hg
      simp only [validB, Bool.and_eq_true, beq_iff_eq] at hv
      obtain ⟨⟨⟨rfl, rfl⟩, h3⟩, _⟩ := hv
      rw [hg, h3]
      simp only [toSV, SV.nm, SV.oN, SV.oU, SV.oF, SV.oS, bitsV_0, ba_eta]
      simp [Kd.lit]
      try decide +kernel
    | iInt =>
      rw [if_neg (by simp [toSV, SV.isN32])] at hg
      simp only [validB, Bool.and_eq_true, beq_iff_eq] at hv
      obtain ⟨⟨rfl, h3⟩, _⟩ := hv
      obtain ⟨e1, e2⟩ := zeros_b h3
      rw [hg, e1, e2]
      simp only [toSV, SV.nm, SV.oN, SV.oU, SV.oF, SV.oS, bitsV_0, nil_toList]
      simp [Kd.lit]
      try decide +kernel
    | iRune =>
      rw [if_neg (by simp [toSV, SV.isN32])] at hg
      simp only [validB, Bool.and_eq_true, beq_iff_eq] at hv
      obtain ⟨⟨rfl, h3⟩, _⟩ := hv
      obtain ⟨e1, e2⟩ := zeros_b h3
      rw [hg, e1, e2]
      simp only [toSV, SV.nm, SV.oN, SV.oU, SV.oF, SV.oS, bitsV_0, nil_toList]
      simp [Kd.lit]
      try decide +kernel
    | iUint =>
      rw [if_neg (by simp [toSV, SV.isN32])] at hg
      simp only [validB, Bool.and_eq_true, beq_iff_eq] at hv
      obtain ⟨rfl, h3⟩ := hv
      obtain ⟨e1, e2⟩ := zeros_b h3
      rw [hg, e1, e2]
      simp only [toSV, SV.nm, SV.oN, SV.oU, SV.oF, SV.oS, bitsV_0, nil_toList]
      simp [Kd.lit]
      try decide +kernel
    | iFloat =>
      rw [if_neg (by simp [toSV, SV.isN32])] at hg
      simp only [validB, Bool.and_eq_true, beq_iff_eq, List.isEmpty_iff] at hv
      obtain ⟨⟨rfl, rfl⟩, h3⟩ := hv
      rw [hg, h3]
      simp only [toSV, SV.nm, SV.oN, SV.oU, SV.oF, SV.oS, nil_toList]
      simp [Kd.lit]
      try decide +kernel

end Go.Proofs.YtffgkocokkhahaaGreatDoor

/- Rows that came out of an index are the same as those that were put in. -/
namespace Go.Proofs.YtffgkocokkhahaaGreatDoor
open Go.RowKit

def SameL (l m : List VV) : Prop := l.length = m.length ∧ ∀ (i : Nat) (x y : VV), l[i]? = some x → m[i]? = some y → sameB x.k x.n x.u x.f x.s y.k y.n y.u y.f y.s = true
def SameR (a b : RowV) : Prop := a.h = b.h ∧ SameL a.us b.us
def SameRs (l m : List RowV) : Prop := l.length = m.length ∧ ∀ (i : Nat) (a b : RowV), l[i]? = some a → m[i]? = some b → SameR a b

theorem out_same {x u : VV} (hc : x.conc = true) (h : OutOf x u) : sameB u.k u.n u.u u.f u.s x.k x.n x.u x.f x.s = true := by
  obtain ⟨y, hy, _, hf, h1, h2, h3, h4⟩ := h
  rw [h1, h2, h3, h4]
  exact back_same (conc_valid hc) hy hf

theorem rowOk_same {B : Nat} {w : World} {r b : RowV} (h : RowOk B w b.key.xe r) (hc : ConcL b.us) : SameR r b :=
  ⟨h.h, h.len, fun i x y hx hy => out_same (hc i y hy).1 (h.outs i y x hy hx)⟩

theorem ans_same {B : Nat} {w : World} {ks : List Key} {R : Value} {rs : List RowV} (h : AnsRows B w ks R rs) {ws : List RowV} (hw : ws.map RowV.key = ks) (hc : ∀ r ∈ ws, ConcL r.us) : SameRs rs ws := by
  refine ⟨by rw [h.len, ← hw]; simp, fun i a b ha hb => ?_⟩
  have hk : ks[i]? = some b.key := by rw [← hw, List.getElem?_map, hb]; rfl
  exact rowOk_same (h.rows i b.key a hk ha) (hc b (List.mem_of_getElem? hb))

end Go.Proofs.YtffgkocokkhahaaGreatDoor

/- laws.sameRow and laws.sameIndex, of what is the same; laws.back. -/
namespace Go.Proofs.YtffgkocokkhahaaGreatDoor
open Go.RowKit

set_option maxRecDepth 100000 in
set_option maxHeartbeats 1600000 in
theorem sameRow_true (l m : List VV) (A B : Option Addr) (c d : Nat) (w : World) (hA : LAt w A l) (hB : LAt w B m) (hs : SameL l m) (hlm : l.length ≤ 2147483647) :
    Calls Tryz.prog 22 #[.slice A l.length c, .slice B m.length d] w fun e w' => e = .returned (.bool true) ∧ Below w.heap.size w w' := by
  obtain ⟨len, hlen⟩ : ∃ len, len = l.length := ⟨_, rfl⟩
  have hlen2 : m.length = len := by rw [hlen]; exact hs.1.symm
  have HL := Lib.hid hA
  have HM := Lib.hid hB
  have HN := Lib.hid hlen
  have HN2 := Lib.hid hlen2
  have HS := Lib.hid hs.2
  rw [hlen2]
  rw [← hlen] at hlm ⊢
  clear hA hB hlen hlen2 hs
  go_enter Tryz.func22, Tryz.ntmps22
  go_wp2
  go_loopw [13] (fun i wr => ∃ k : Nat, k ≤ len ∧ i = .int .i64 k ∧ Below w.heap.size w wr) (fun i _ => len - (intOf i).toNat)
  case atStart => exact ⟨0, by omega, rfl, Below.refl _ _⟩
  case round =>
    obtain ⟨k, hk, rfl, hb⟩ := hrel
    have HB := Lib.hid hb
    by_cases hlt : k < len
    · obtain ⟨x, hx⟩ : ∃ x, l[k]? = some x := ⟨_, List.getElem?_eq_getElem (by rw [← HN.out]; exact hlt)⟩
      obtain ⟨y, hy⟩ : ∃ y, m[k]? = some y := ⟨_, List.getElem?_eq_getElem (by rw [HN2.out]; exact hlt)⟩
      obtain ⟨ad, rfl, hbl, h0, h1, h2, h3, h4⟩ := (HL.out.below hb) k x hx
      obtain ⟨bd, rfl, hbm, g0, g1, g2, g3, g4⟩ := (HM.out.below hb) k y hy
      have HC : Hid (∀ w', Calls Tryz.prog 32 #[.agg #[.string x.k, .int .i64 x.n, .int .u64 x.u, .float .f64 x.f, .string x.s], .agg #[.string y.k, .int .i64 y.n, .int .u64 y.u, .float .f64 y.f, .string y.s]] w' fun e w'' => e = .returned (.bool true) ∧ Below w'.heap.size w' w'') :=
        Lib.hid (fun w' => by have := same_any x.k x.n x.u x.f x.s y.k y.n y.u y.f y.s w'; rw [HS.out k x y hx hy] at this; exact this)
      have p0 : ∀ q : BW wr, q.w.cell? (ad.add (k * 5)) = some (.string x.k) := fun q => (q.h.cell hbl).trans h0
      have p1 : ∀ q : BW wr, q.w.cell? ⟨(ad.add (k * 5)).block, (ad.add (k * 5)).off + 1, none⟩ = some (.int .i64 x.n) := fun q => (q.h.cell (by exact hbl)).trans h1
      have p2 : ∀ q : BW wr, q.w.cell? ⟨(ad.add (k * 5)).block, (ad.add (k * 5)).off + 2, none⟩ = some (.int .u64 x.u) := fun q => (q.h.cell (by exact hbl)).trans h2
      have p3 : ∀ q : BW wr, q.w.cell? ⟨(ad.add (k * 5)).block, (ad.add (k * 5)).off + 3, none⟩ = some (.float .f64 x.f) := fun q => (q.h.cell (by exact hbl)).trans h3
      have p4 : ∀ q : BW wr, q.w.cell? ⟨(ad.add (k * 5)).block, (ad.add (k * 5)).off + 4, none⟩ = some (.string x.s) := fun q => (q.h.cell (by exact hbl)).trans h4
      have q0 : ∀ q : BW wr, q.w.cell? (bd.add (k * 5)) = some (.string y.k) := fun q => (q.h.cell hbm).trans g0
      have q1 : ∀ q : BW wr, q.w.cell? ⟨(bd.add (k * 5)).block, (bd.add (k * 5)).off + 1, none⟩ = some (.int .i64 y.n) := fun q => (q.h.cell (by exact hbm)).trans g1
      have q2 : ∀ q : BW wr, q.w.cell? ⟨(bd.add (k * 5)).block, (bd.add (k * 5)).off + 2, none⟩ = some (.int .u64 y.u) := fun q => (q.h.cell (by exact hbm)).trans g2
      have q3 : ∀ q : BW wr, q.w.cell? ⟨(bd.add (k * 5)).block, (bd.add (k * 5)).off + 3, none⟩ = some (.float .f64 y.f) := fun q => (q.h.cell (by exact hbm)).trans g3
      have q4 : ∀ q : BW wr, q.w.cell? ⟨(bd.add (k * 5)).block, (bd.add (k * 5)).off + 4, none⟩ = some (.string y.s) := fun q => (q.h.cell (by exact hbm)).trans g4
      clear hx hy hb h0 h1 h2 h3 h4 g0 g1 g2 g3 g4
      go_wp2
      refine wp_region_bw (by kernel_rfl) (by kernel_rfl) ?_
      repeat (go_big_quiet_step ((go_at_call 32; exact bw_of (HC.out _))))
      refine wpQuiet_nil ?_
      intro _ hw'
      obtain ⟨pq, hw''⟩ := hw'
      subst hw''
      go_wp2
      exact ⟨⟨k + 1, by omega, by push_cast; rfl, up_below' HB.out pq.h⟩, by simp [intOf]; omega⟩
    · have hke : k = len := by omega
      subst hke
      go_wp2
      go_ret
      exact ⟨rfl, hb⟩

set_option maxRecDepth 100000 in
set_option maxHeartbeats 1600000 in
theorem sameIndex_true (l m : List RowV) (A B : Option Addr) (c d : Nat) (w : World) (hA : RowsAt w A l) (hB : RowsAt w B m) (hs : SameRs l m) (hlm : l.length ≤ 2147483647) (hlv : ∀ r ∈ l, r.us.length ≤ 2147483647) :
    Calls Tryz.prog 15 #[.slice A l.length c, .slice B m.length d] w fun e w' => e = .returned (.bool true) ∧ Below w.heap.size w w' := by
  obtain ⟨len, hlen⟩ : ∃ len, len = l.length := ⟨_, rfl⟩
  have hlen2 : m.length = len := by rw [hlen]; exact hs.1.symm
  have HL := Lib.hid hA
  have HM := Lib.hid hB
  have HN := Lib.hid hlen
  have HN2 := Lib.hid hlen2
  have HS := Lib.hid hs.2
  have HV := Lib.hid hlv
  rw [hlen2]
  rw [← hlen] at hlm ⊢
  clear hA hB hlen hlen2 hs hlv
  go_enter Tryz.func15, Tryz.ntmps15
  go_wp2
  go_loopw [13] (fun i wr => ∃ k : Nat, k ≤ len ∧ i = .int .i64 k ∧ Below w.heap.size w wr) (fun i _ => len - (intOf i).toNat)
  case atStart => exact ⟨0, by omega, rfl, Below.refl _ _⟩
  case round =>
    obtain ⟨k, hk, rfl, hb⟩ := hrel
    have HB := Lib.hid hb
    by_cases hlt : k < len
    · obtain ⟨x, hx⟩ : ∃ x, l[k]? = some x := ⟨_, List.getElem?_eq_getElem (by rw [← HN.out]; exact hlt)⟩
      obtain ⟨y, hy⟩ : ∃ y, m[k]? = some y := ⟨_, List.getElem?_eq_getElem (by rw [HN2.out]; exact hlt)⟩
      obtain ⟨⟨ad, rfl, hbl, h0, h1⟩, hlx⟩ := (HL.out.below hb) k x hx
      obtain ⟨⟨bd, rfl, hbm, g0, g1⟩, hly⟩ := (HM.out.below hb) k y hy
      have hxy := HS.out k x y hx hy
      rw [← hxy.1] at g1
      have HC : Hid (∀ z : BW wr, Calls Tryz.prog 22 #[.slice x.A x.us.length x.c, .slice y.A y.us.length y.c] z.w fun e w'' => e = .returned (.bool true) ∧ Below z.w.heap.size z.w w'') :=
        Lib.hid (fun z => sameRow_true x.us y.us x.A y.A x.c y.c z.w (hlx.below z.h) (hly.below z.h) hxy.2 (HV.out x (List.mem_of_getElem? hx)))
      have p0 : ∀ q : BW wr, q.w.cell? (ad.add (k * 2)) = some (.slice x.A x.us.length x.c) := fun q => (q.h.cell hbl).trans h0
      have p1 : ∀ q : BW wr, q.w.cell? ⟨(ad.add (k * 2)).block, (ad.add (k * 2)).off + 1, none⟩ = some (.int .i64 x.h) := fun q => (q.h.cell (by exact hbl)).trans h1
      have q0 : ∀ q : BW wr, q.w.cell? (bd.add (k * 2)) = some (.slice y.A y.us.length y.c) := fun q => (q.h.cell hbm).trans g0
      have q1 : ∀ q : BW wr, q.w.cell? ⟨(bd.add (k * 2)).block, (bd.add (k * 2)).off + 1, none⟩ = some (.int .i64 x.h) := fun q => (q.h.cell (by exact hbm)).trans g1
      have hne : (x.h != x.h) = false := by simp
      clear hx hy hb h0 h1 g0 g1 hlx hly hxy
      go_wp2
      refine wp_region_bw (by kernel_rfl) (by kernel_rfl) ?_
      repeat (go_big_quiet_step ((go_at_call 22; exact bw_of (HC.out _))))
      refine wpQuiet_nil ?_
      intro _ hw'
      obtain ⟨pq, hw''⟩ := hw'
      subst hw''
      go_wp2
      exact ⟨⟨k + 1, by omega, by push_cast; rfl, up_below' HB.out pq.h⟩, by simp [intOf]; omega⟩
    · have hke : k = len := by omega
      subst hke
      go_wp2
      go_ret
      exact ⟨rfl, hb⟩

end Go.Proofs.YtffgkocokkhahaaGreatDoor

/- A row that is not empty, opened. -/
namespace Go.Proofs.YtffgkocokkhahaaGreatDoor
open Go.RowKit

theorem own_some {w : World} {B : Nat} {e : TypeId} {s : Nat} {v : Value} {n : Nat} {xs : List Value} (h : w.ownsRow B e s v n xs) (hn : 0 < n) :
    ∃ g cap cur, v = .slice (some ⟨g, 0, none⟩) n cap ∧ B ≤ g ∧ w.heap[g]? = some (.cells cur e (0, 0)) ∧ n ≤ cap ∧ cap ≤ maxLen ∧ cur.size = cap * s ∧ cur.toList.take (n * s) = xs := by
  rcases h.2 with ⟨_, h0⟩ | h
  · omega
  · exact h

theorem cur_split {cur : Array Value} {n : Nat} {xs : List Value} (h : cur.toList.take n = xs) : cur.toList = xs ++ cur.toList.drop n := by rw [← h, List.take_append_drop]

end Go.Proofs.YtffgkocokkhahaaGreatDoor

/- A law's map of rows by handles, as a function. -/
namespace Go.Proofs.YtffgkocokkhahaaGreatDoor
open Go.RowKit

/-- How a row reads in a map: as itself. -/
def rowR : Value → Option (DataW Value × List MemPlace)
  | .slice A n c => some (.held (.slice A n c), [])
  | _ => none

theorem rowR_val (r : RV) : rowR r.val = some (.held r.val, []) := rfl
theorem rowR_inv {v : Value} {y : DataW Value × List MemPlace} (h : rowR v = some y) : ∃ A n c, v = .slice A n c ∧ y = (.held (.slice A n c), []) := by
  cases v <;> simp [rowR] at h
  exact ⟨_, _, _, rfl, h.symm⟩

def hk (h : Nat) : Lit := .int .i64 (h : Int)
theorem hk_key (h : Nat) : WideAt.IsKeyLit (hk h) := trivial
theorem hk_inj {a b : Nat} (h : hk a = hk b) : a = b := by
  unfold hk at h
  injection h with _ h
  exact Int.ofNat.inj h

structure MapIs (N : Nat → Option RV) (D : DataW Value) : Prop where
  keys : ∀ kl, Maps.has D kl = true → ∃ h r, kl = hk h ∧ N h = some r
  rows : ∀ h r, N h = some r → Maps.has D (hk h) = true ∧ ∀ z, D.atKey (hk h) z = .held r.val

variable {N : Nat → Option RV} {D D' : DataW Value}

theorem MapIs.hasNot (h : MapIs N D) {k : Nat} (hn : N k = none) : Maps.has D (hk k) = false := by
  cases hh : Maps.has D (hk k) with
  | false => rfl
  | true =>
    obtain ⟨x, r, e, hx⟩ := h.keys _ hh
    rw [hk_inj e, hx] at hn
    cases hn

theorem MapIs.empty : MapIs (fun _ => none) (.map []) := ⟨fun kl h => (by cases h), fun h r e => (by cases e)⟩

theorem MapIs.put (h : MapIs N D) (hm : Maps.IsMap D) (k : Nat) (r : RV) : MapIs (fun x => if x = k then some r else N x) (D.put (hk k) (.held r.val)) := by
  refine ⟨fun kl hh => ?_, fun x y hx => ?_⟩
  · by_cases e : kl = hk k
    · exact ⟨k, r, e, if_pos rfl⟩
    · rw [Maps.has_put_other e] at hh
      obtain ⟨x, y, rfl, hx⟩ := h.keys kl hh
      exact ⟨x, y, rfl, by rw [if_neg (fun e' => e (by rw [e']))]; exact hx⟩
  · try dsimp only at hx
    by_cases e : x = k
    · rw [if_pos e] at hx
      injection hx with hx
      subst hx
      subst e
      exact ⟨Maps.has_put_same hm (hk_key x) _, fun z => Maps.atKey_put_same hm (hk_key x) _ z⟩
    · rw [if_neg e] at hx
      have hne : hk x ≠ hk k := fun e' => e (hk_inj e')
      have h1 := h.rows x y hx
      exact ⟨by rw [Maps.has_put_other hne]; exact h1.1, fun z => by rw [Maps.atKey_put_other hne]; exact h1.2 z⟩

theorem MapIs.del (h : MapIs N D) (k : Nat) : MapIs (fun x => if x = k then none else N x) (D.del (hk k)) := by
  refine ⟨fun kl hh => ?_, fun x y hx => ?_⟩
  · by_cases e : kl = hk k
    · rw [e, Maps.has_del_same] at hh
      cases hh
    · rw [Maps.has_del_other e] at hh
      obtain ⟨x, y, rfl, hx⟩ := h.keys kl hh
      exact ⟨x, y, rfl, by rw [if_neg (fun e' => e (by rw [e']))]; exact hx⟩
  · try dsimp only at hx
    by_cases e : x = k
    · rw [if_pos e] at hx
      cases hx
    · rw [if_neg e] at hx
      have hne : hk x ≠ hk k := fun e' => e (hk_inj e')
      have h1 := h.rows x y hx
      exact ⟨by rw [Maps.has_del_other hne]; exact h1.1, fun z => by rw [Maps.atKey_del_other hne]; exact h1.2 z⟩

theorem MapIs.copy (h : MapIs N D) {left : Lit → Bool} (ha : Maps.Agree D' D left) (hl : ∀ k, left k = false) : MapIs N D' := by
  have e : ∀ k, Maps.has D' k = Maps.has D k := fun k => by rw [ha.1 k, hl k]; simp
  refine ⟨fun kl hh => h.keys kl (by rw [← e]; exact hh), fun x y hx => ?_⟩
  have h1 := h.rows x y hx
  exact ⟨by rw [e]; exact h1.1, fun z => by rw [ha.2 _ z (by rw [e]; exact h1.1)]; exact h1.2 z⟩

end Go.Proofs.YtffgkocokkhahaaGreatDoor

/- laws.copied, laws.handles: maps of rows by handles. -/
namespace Go.Proofs.YtffgkocokkhahaaGreatDoor
open Go.RowKit Go.Maps

theorem mapK : Keyed Tryz.prog 2 := int_keyed Tryz.underlying2

/-- A map of rows lies in block b: at most n of them. -/
def MapAt (w : World) (b n : Nat) (N : Nat → Option RV) : Prop := ∃ D, w.ownsMap Tryz.prog 2 rowR b n D ∧ MapIs N D

theorem MapAt.kept {w w' : World} {b n : Nat} {N : Nat → Option RV} {row : Option Nat} (h : MapAt w b n N) (hg : w.grownBy w' row) (hne : some b ≠ row) : MapAt w' b n N := by
  obtain ⟨D, h1, h2⟩ := h
  exact ⟨D, h1.kept hg hne, h2⟩
theorem MapAt.lt {w : World} {b n : Nat} {N : Nat → Option RV} (h : MapAt w b n N) : b < w.heap.size := by
  obtain ⟨D, h1, h2⟩ := h
  exact h1.lt
theorem MapAt.chg {S : Nat → Prop} {w w' : World} {b n : Nat} {N : Nat → Option RV} (h : MapAt w b n N) (hc : Chg S w w') (hn : ¬ S b) : MapAt w' b n N := by
  obtain ⟨D, h1, h2⟩ := h
  have hlt := h1.lt
  obtain ⟨es, clock, hb, F, hs, hD⟩ := h1
  exact ⟨D, ⟨es, clock, (hc.block b hlt hn).trans hb, F, hs, hD⟩, h2⟩
theorem MapAt.mono {w : World} {b n k : Nat} {N : Nat → Option RV} (h : MapAt w b n N) (hk : n ≤ k) : MapAt w b k N := by
  obtain ⟨D, h1, h2⟩ := h
  exact ⟨D, h1.mono hk, h2⟩

structure RowC where
  A : Option Addr
  n : Nat
  c : Nat
def mkRow (c : RowC) : Value := .slice c.A c.n c.c

theorem owns_size {w : World} {b n : Nat} {D : DataW Value} (h : w.ownsMap Tryz.prog 2 rowR b n D) : Maps.size D ≤ n := by
  obtain ⟨es, clock, hb, F, hs, rfl⟩ := h
  rw [Maps.size_eq, length_sorted]
  simpa using hs

def CopyP (n : Nat) (N : Nat → Option RV) (w : World) (y : Ending) (w' : World) : Prop := y = .returned (.map (some w.heap.size)) ∧ MapAt w' w.heap.size n N ∧ Below w.heap.size w w'

set_option maxRecDepth 100000 in
set_option maxHeartbeats 1600000 in
theorem copied_any {b n : Nat} {N : Nat → Option RV} {w : World} (h : MapAt w b n N) (hn : n ≤ 100000) : Calls Tryz.prog 21 #[.map (some b)] w (CopyP n N w) := by
  obtain ⟨D0, hown, hN⟩ := h
  have hmm := @run_makeMap Tryz.prog
  have hbl := hown.lt
  have hsz := owns_size hown
  have e1 : (w.alloc (.map #[] 0)).heap.size = w.heap.size + 1 := by simp
  have hmax : maxLen = 9223372036854775807 := rfl
  go_enter Tryz.func21, Tryz.ntmps21
  go_wp2_with (first
    | (at_range; refine wpList_range_own _ rfl _ 27 rfl 2 32 mapK Tryz.underlying27 _ b n _ rfl (hown.alloc _) ?_; intro w0 hrg0 hg0 hs0)
    | go_in)
  go_frame
  rw [e1] at hrg0 hs0 ⊢
  go_loopw [4] (fun _ wr => ∃ (left : Lit → Bool) (cnt : Nat) (Dout : DataW Value), wr.ranges Tryz.prog 2 rowR b (w.heap.size + 1) n D0 left cnt ∧ cnt ≤ Maps.size D0 ∧
      wr.ownsMap Tryz.prog 2 rowR w.heap.size (Maps.size D0 - cnt) Dout ∧ Agree Dout D0 left ∧ Below w.heap.size w wr)
    (fun _ wr => wr.rangeLeft b (w.heap.size + 1))
  case atStart =>
    exact ⟨_, _, .map [], hrg0, Nat.le_refl _, ((World.ownsMap_made _ _ _ _).kept hg0 (by simp)).mono (Nat.zero_le _), agree_start D0, ((Below.refl _ _).alloc (Nat.le_refl _) _).grown hg0 (by simp) (fun j hj => by cases hj)⟩
  case round =>
    obtain ⟨left, cnt, Dout, hrg, hcs, hout, hA, hnx⟩ := hrel
    go_wp2_with (first
      | (at_next; refine wpList_next_ranges (α := Int) (β := RowC) _ rfl _ rfl 2 mapK rowR (Value.int .i64) mkRow (fun key kl hkey => by obtain ⟨x, rfl, _⟩ := keyOf_int_inv Tryz.underlying2 hkey; exact ⟨x, rfl⟩) (fun v y hv => by obtain ⟨A, k, c, rfl, _⟩ := rowR_inv hv; exact ⟨⟨A, k, c⟩, rfl⟩)
          b (w.heap.size + 1) n _ _ _ rfl hrg ?_ ?_)
      | go_in)
    · intro hc0 hl0
      go_wp2
      go_ret
      subst hc0
      exact ⟨rfl, ⟨Dout, by have := hout.mono (n' := n) (by omega); exact this, hN.copy hA hl0⟩, hnx⟩
    · intro x c kl y ps w1 cnt1 hkey hlx hrow hat hrg1 hlt hg1 hs1 hen
      obtain ⟨c1, c2, c3⟩ := c
      have hrow' : rowR (.slice c1 c2 c3) = some (y, ps) := hrow
      have hout1 := hout.kept hg1 (by simp)
      simp only [mkRow] at hen
      simp only [mkRow]
      go_wp2_with (first
        | (at_mapUpdate; refine wpList_mapUpdate_own _ rfl _ _ _ 27 rfl 2 32 mapK Tryz.underlying27 rowR w.heap.size _ _ rfl hout1 (by omega) _ _ kl rfl rfl hkey _ _ hrow' ?_; intro w2 hout2 hg2; go_frame)
        | go_in)
      have hrg2 := hrg1.kept hg2 (fun e => by have := Option.some.inj e; omega) (fun e => by have := Option.some.inj e; omega)
      go_roundw
      case rel =>
        exact ⟨_, cnt1, _, hrg2, by omega, hout2.mono (by omega), agree_step hA hout.isMap (mapK.key hkey) hat,
          (hnx.grown hg1 hnx.size (fun j hj => by cases hj; exact Nat.le_succ _)).grown hg2 (by have := hnx.size; omega) (fun j hj => by cases hj; exact Nat.le_refl _)⟩
      case measure => rw [hrg2.left_eq, hrg.left_eq]; exact hlt

end Go.Proofs.YtffgkocokkhahaaGreatDoor

/- laws.handles. -/
namespace Go.Proofs.YtffgkocokkhahaaGreatDoor
open Go.RowKit Go.Maps

theorem info_i64 : (Tryz.prog.info? 2).map (fun i => (i.zero, i.size, i.bytes)) = some (some (.int .i64 0), 1, 8) := by kernel_rfl

/-- Handles that a map has. -/
def AllIn (N : Nat → Option RV) (xs : List Nat) : Prop := ∀ x ∈ xs, ∃ r, N x = some r

def HandlesP (n : Nat) (N : Nat → Option RV) (w : World) (y : Ending) (w' : World) : Prop :=
  ∃ A k c xs, y = .returned (.slice A k c) ∧ k = xs.length ∧ w'.ownsRow w.heap.size 2 1 (.slice A k c) k (xs.map natV) ∧ AllIn N xs ∧ k ≤ n ∧ Below w.heap.size w w'

theorem AllIn.set {N : Nat → Option RV} {xs : List Nat} (h : AllIn N xs) {i x : Nat} (hx : ∃ r, N x = some r) : AllIn N (xs.set i x) := fun y hy => by
  rcases List.mem_or_eq_of_mem_set hy with h1 | rfl
  · exact h y h1
  · exact hx

set_option maxRecDepth 100000 in
set_option maxHeartbeats 3200000 in
theorem handles_any {b n : Nat} {N : Nat → Option RV} {w : World} (h : MapAt w b n N) (hn : n ≤ 100000) (hN1 : ∀ x r, N x = some r → x ≤ 100000) : Calls Tryz.prog 9 #[.map (some b)] w (HandlesP n N w) := by
  obtain ⟨D0, hown, hN⟩ := h
  obtain ⟨i0, hi, hz0, hz1, hz2⟩ := info_parts info_i64
  have hbl := hown.lt
  have hsz := owns_size hown
  have HNN := Lib.hid hN1
  have HN := Lib.hid hN
  clear hN1 hN
  go_enter Tryz.func9, Tryz.ntmps9
  go_wp2_with (first
    | (at_range; refine wpList_range_own _ rfl _ 27 rfl 2 32 mapK Tryz.underlying27 _ b n _ rfl hown ?_; intro w0 hrg0 hg0 hs0)
    | go_in)
  go_frame
  go_loopw [3] (fun v wr => ∃ (left : Lit → Bool) (cnt : Nat) (A : Option Addr) (k c : Nat) (xs : List Nat), v = .slice A k c ∧ wr.ranges Tryz.prog 2 rowR b w.heap.size n D0 left cnt ∧ cnt + k ≤ Maps.size D0 ∧ (∀ kl, left kl = true → Maps.has D0 kl = true) ∧ k = xs.length ∧
      wr.ownsRow (w.heap.size + 1) 2 1 (.slice A k c) k (xs.map natV) ∧ AllIn N xs ∧ Below w.heap.size w wr ∧ w.heap.size + 1 ≤ wr.heap.size)
    (fun _ wr => wr.rangeLeft b w.heap.size)
  case atStart =>
    exact ⟨_, _, none, 0, 0, [], rfl, hrg0, Nat.le_refl _, fun _ h => h, rfl, World.ownsRow_nil _ _ _ _, fun x hx => (by cases hx), (Below.refl _ _).grown hg0 (Nat.le_refl _) (fun j hj => by cases hj), by omega⟩
  case round =>
    rename World => wa
    obtain ⟨left, cnt, A, k, c, xs, rfl, hrg, hcs, hlf, hkx, hout, hA, hnx, hsa⟩ := hrel
    have HKX := Lib.hid hkx
    have HO := Lib.hid hout
    have HA := Lib.hid hA
    have HB := Lib.hid hnx
    have HLF := Lib.hid hlf
    have HRG := Lib.hid hrg
    clear hkx hout hA hnx hlf
    go_wp2_with (first
      | (at_next; refine wpList_next_ranges (α := Int) (β := RowC) _ rfl _ rfl 2 mapK rowR (Value.int .i64) mkRow (fun key kl hkey => by obtain ⟨x, rfl, _⟩ := keyOf_int_inv Tryz.underlying2 hkey; exact ⟨x, rfl⟩) (fun v y hv => by obtain ⟨A, k, c, rfl, _⟩ := rowR_inv hv; exact ⟨⟨A, k, c⟩, rfl⟩)
          b w.heap.size n _ _ _ rfl hrg ?_ ?_)
      | go_in)
    · intro hc0 hl0
      go_wp2
      go_ret
      exact ⟨A, k, c, xs, rfl, HKX.out, own_mono HO.out (by omega), HA.out, by omega, HB.out⟩
    · intro x e kl y ps w1 cnt1 hkey hlx hrow hat hrg1 hlt hg1 hs1 hen
      obtain ⟨x', ex, hkl, _⟩ := keyOf_int_inv Tryz.underlying2 hkey
      obtain rfl : x = x' := by injection ex
      obtain ⟨hx, r0, ekl, hNx⟩ := HN.out.keys kl (HLF.out kl hlx)
      obtain rfl : x = (hx : Int) := by rw [hkl] at ekl; unfold hk at ekl; injection ekl
      have hxb := HNN.out hx r0 hNx
      have HNX : Hid (∃ r, N hx = some r) := Lib.hid ⟨r0, hNx⟩
      have HG1 := Lib.hid hg1
      have HRG1 := Lib.hid hrg1
      have HLT := Lib.hid hlt
      have HB1 : Hid (Below w.heap.size w w1) := Lib.hid (HB.out.grown hg1 HB.out.size (fun j hj => by cases hj; exact Nat.le_refl _))
      have HO1 : Hid (w1.ownsRow (w.heap.size + 1) 2 1 (.slice A k c) k (xs.map natV)) := Lib.hid (own_chg HO.out (Chg.of_grown hg1) (fun z hz e => by have h1 := own_ge HO.out hz; have h2 := Option.some.inj e; omega))
      have hk9 : k ≤ 100000 := by omega
      have HHL : Hid (∀ z, (left z && !z.sameKey kl) = true → Maps.has D0 z = true) := Lib.hid (fun z hz => HLF.out z (by simp at hz; exact hz.1))
      have hsw1 : w.heap.size + 1 ≤ w1.heap.size := by omega
      have hcs1 : cnt1 + (k + 1) ≤ Maps.size D0 := by omega
      clear hkey hlx hrow hat hrg1 hlt hg1 hs1 ex hkl ekl hNx hrg
      simp only [mkRow] at hen
      simp only [mkRow]
      go_wp2_with (at_builtin
                   refine wpList_append_any _ rfl (.tmp 14) (.tmp 16) _ rfl (w.heap.size + 1) 2 i0 _ 1 8 Tryz.underlying35 hi hz0 hz1 hz2 rfl (by omega) (.slice A k c) k (xs.map natV) rfl (HO1.out.alloc _) (w1.heap.size + 1) (some ⟨w1.heap.size, 0, none⟩) 1 1 [.int .i64 hx] rfl ⟨rfl, fun _ => ⟨_, rfl, Nat.lt_succ_self _, fun j u hu => World.news_of_block (heap_new w1 _) j u hu⟩⟩ (fun u hu => by simp at hu; rw [hu]; rfl) (by simp only [maxLen]; omega) (by omega) (by simp; omega) ?_
                   intro v2 w2 hown2 hg2 hat2
                   obtain ⟨g, c2, rfl, _, lg⟩ := hown2.form (by omega)
                   have HC2 : Hid (Chg (fun z => (Value.slice A k c).ownBlock = some z) w1 w2) := Lib.hid (((Chg.refl _ w1).alloc _).next (Chg.of_grown hg2) (fun z _ h => h.symm))
                   have HO2 : Hid (w2.ownsRow (w.heap.size + 1) 2 1 (.slice (some ⟨g, 0, none⟩) (k + 1) c2) (k + 1) ((xs ++ [hx]).map natV)) := Lib.hid (by rw [List.map_append]; exact hown2)
                   have HGG : Hid (w.heap.size + 1 ≤ g) := Lib.hid (own_ge hown2 rfl)
                   clear hown2 hg2 hat2)
      have hs2 := HC2.out.size
      have HRG2 : Hid (w2.ranges Tryz.prog 2 rowR b w.heap.size n D0 (fun z => left z && !z.sameKey kl) cnt1) := Lib.hid (by
        have hrl := HRG1.out.lt
        have hbl1 := HRG1.out.owns.lt
        obtain ⟨es, clock, since, seen, c0, h1, F, h2, h3, h4, h5⟩ := HRG1.out
        exact ⟨es, clock, since, seen, c0, (HC2.out.block b hbl1 (fun e => by have := own_ge HO1.out e; omega)).trans h1, F, h2, h3, (HC2.out.block _ hrl (fun e => by have := own_ge HO1.out e; omega)).trans h4, h5⟩)
      have HB2 : Hid (Below w.heap.size w w2) := Lib.hid (HB1.out.trans (HC2.out.below HB1.out.size (fun z hz => by have := own_ge HO1.out hz; omega)))
      have HXL : Hid ((xs ++ [hx]).length = k + 1) := Lib.hid (by simp [← HKX.out])
      have HAX : Hid (AllIn N (xs ++ [hx])) := Lib.hid (fun z hz => (List.mem_append.1 hz).elim (HA.out z) (fun h => by obtain rfl := List.mem_singleton.1 h; exact HNX.out))
      go_loopw [5] (fun v5 wi => ∃ (i : Nat) (xs2 : List Nat), v5 = .int .i64 i ∧ i ≤ k ∧ xs2.length = k + 1 ∧ wi.ownsRow (w.heap.size + 1) 2 1 (.slice (some ⟨g, 0, none⟩) (k + 1) c2) (k + 1) (xs2.map natV) ∧ AllIn N xs2 ∧ Chg (fun z => z = g) w2 wi) (fun v5 _ => (intOf v5).toNat)
      case atStart => exact ⟨k, xs ++ [hx], rfl, Nat.le_refl _, HXL.out, HO2.out, HAX.out, Chg.refl _ _⟩
      case round =>
        rename World => wi
        obtain ⟨i, xs2, rfl, hi2, hl2, ho2, ha2, hc2⟩ := hrel
        have HL2 := Lib.hid hl2
        have HO3 := Lib.hid ho2
        have HA3 := Lib.hid ha2
        have HC3 := Lib.hid hc2
        have hsi := hc2.size
        have hii : ∀ j, j < k + 1 → ∃ q : Nat, xs2[j]? = some q ∧ wi.cell? ⟨g, j, none⟩ = some (.int .i64 q) ∧ q ≤ 100000 := fun j hj => by
          have hlt : j < xs2.length := by omega
          refine ⟨xs2[j], List.getElem?_eq_getElem hlt, ?_, ?_⟩
          · rw [HO3.out.cellAt j (by omega), List.getElem?_map, List.getElem?_eq_getElem hlt]
            rfl
          · obtain ⟨r, hr⟩ := HA3.out xs2[j] (List.getElem_mem _)
            exact HNN.out _ r hr
        obtain ⟨qi, _, hqi, _⟩ := hii i (by omega)
        have hfi := HO3.out.frozenAt i
        have HFIN : Hid (∀ wj : World, wj = wi.setCell ⟨g, i, none⟩ (.int .i64 hx) → wj.ranges Tryz.prog 2 rowR b w.heap.size n D0 (fun z => left z && !z.sameKey kl) cnt1 ∧ wj.ownsRow (w.heap.size + 1) 2 1 (.slice (some ⟨g, 0, none⟩) (k + 1) c2) (k + 1) ((xs2.set i hx).map natV) ∧ AllIn N (xs2.set i hx) ∧ Below w.heap.size w wj) := Lib.hid (fun wj hwj => by
          have hcj : Chg (fun z => z = g) w2 wj := hwj ▸ hc2.setCell (p := ⟨g, i, none⟩) (.inl rfl) _
          have hgg := HGG.out
          refine ⟨?_, ?_, HA3.out.set HNX.out, HB2.out.trans (hcj.below HB2.out.size (fun z hz => by omega))⟩
          · have hrl := HRG2.out.lt
            have hbl1 := HRG2.out.owns.lt
            obtain ⟨es, clock, since, seen, c0, h1, F, h2, h3, h4, h5⟩ := HRG2.out
            exact ⟨es, clock, since, seen, c0, (hcj.block b hbl1 (fun e => by omega)).trans h1, F, h2, h3, (hcj.block _ hrl (fun e => by omega)).trans h4, h5⟩
          · rw [hwj, List.map_set]
            exact (HO3.out.stored i (natV hx)).1)
        rcases Nat.eq_zero_or_pos i with h0 | h0
        · subst h0
          clear hii hl2 ho2 ha2 hc2
          go_wp2
          go_roundw
          case rel =>
            obtain ⟨f1, f2, f3, f4⟩ := HFIN.out _ rfl
            exact ⟨_, cnt1, some ⟨g, 0, none⟩, k + 1, c2, xs2.set 0 hx, rfl, f1, hcs1, HHL.out, by simp [HL2.out], f2, f3, f4, by simp; omega⟩
          case measure =>
            obtain ⟨f1, f2, f3, f4⟩ := HFIN.out _ rfl
            rw [f1.left_eq, HRG.out.left_eq]; exact HLT.out
        · obtain ⟨p, hp⟩ : ∃ p, p = i - 1 := ⟨_, rfl⟩
          have hp1 : (i : Int) - 1 = (p : Int) := by omega
          have hw1 : IntKind.i64.wrap ((i : Int) - 1) = (p : Int) := by rw [hp1]; exact IntWalk.i64_in _ (by omega)
          obtain ⟨qp, hqx, hqp, hqb⟩ := hii p (by omega)
          have HQX := Lib.hid hqx
          have hpi : p < i := by omega
          clear hii hl2 ho2 ha2 hc2 hp hqx
          by_cases hgt : hx < qp
          · have hgt' : (hx : Int) < (qp : Int) := by omega
            go_wp2
            refine ⟨⟨p, xs2.set i qp, rfl, by omega, by simp [HL2.out], ?_, HA3.out.set (HA3.out qp (List.mem_of_getElem? HQX.out)), HC3.out.setCell (p := ⟨g, i, none⟩) (.inl rfl) _⟩, by simp [intOf]; omega⟩
            rw [List.map_set]
            exact (HO3.out.stored i (natV qp)).1
          · have hgt' : ¬ (hx : Int) < (qp : Int) := by omega
            go_wp2
            go_roundw
            case rel =>
              obtain ⟨f1, f2, f3, f4⟩ := HFIN.out _ rfl
              exact ⟨_, cnt1, some ⟨g, 0, none⟩, k + 1, c2, xs2.set i hx, rfl, f1, hcs1, HHL.out, by simp [HL2.out], f2, f3, f4, by simp; omega⟩
            case measure =>
              obtain ⟨f1, f2, f3, f4⟩ := HFIN.out _ rfl
              rw [f1.left_eq, HRG.out.left_eq]; exact HLT.out

end Go.Proofs.YtffgkocokkhahaaGreatDoor
