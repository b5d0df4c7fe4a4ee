/-
  impl.indexWalk, back. PRINTED off XXwa.lean.tpl (walk_next, the names turned). || impl.indexWalk where there is nothing; through an index from its first entry on, and from its last one back. || impl.indexWalk where there is nothing. || An index and the data of its keys: Create, SeekFirst, SeekLast and indexWalk of it. || Lists of rows in memory. || A row put among rows; rows in order. No program. || Deeds to an index and their answers, in memory. || The package-level error of division by zero, and the number that an error gets: not 0. It needs that the variable holds what the program's text lays into it. || impl.fault, deferred, in a frame that returns: recover finds nothing.
-/
import Derived.Test.YtffgkocokkhahaaDoorIxu21
import Derived.Test.YtffgkocokkhahaaDoorIxu19
import Derived.LaidEql
import Derived.Test.YtffgkocokkhahaaDoorIxu01
import Derived.Defers
import Derived.Recover

/- impl.indexWalk, back. PRINTED off XXwa.lean.tpl (walk_next, the names turned). -/
namespace Go.Proofs.YtffgkocokkhahaaDoor
open Go.RowKit

set_option maxRecDepth 100000 in
set_option maxHeartbeats 3200000 in
theorem walk_prev (b : Nat) (n : Int) (hit : Bool) (es : List XE) (It : Nat → World → Prop) (E : Value) (w : World) (h0 : 0 ≤ n) (h1 : n ≤ 1000000) (lb : b < w.heap.size) (hE : ∃ a, E = .iface 246 (.pointer (some a))) (hI : It 0 w)
    (HS : Hid (∀ k x w1, Chg (fun x => x = b) w w1 → It k w1 → es[k]? = some x → Calls Tryd.prog 166 #[.pointer (some ⟨b, 0, none⟩)] w1 (Got2 x b (It (k + 1)) w1)))
    (HE : Hid (∀ w1, Chg (fun x => x = b) w w1 → It es.length w1 → Calls Tryd.prog 166 #[.pointer (some ⟨b, 0, none⟩)] w1 (fun y w' => y = .returned (.tuple #[.slice none 0 0, .int .i64 (-1), E]) ∧ Below w1.heap.size w1 w')))
    (HC : Hid (∀ k w1 w2 (S : Nat → Prop), It k w1 → Chg S w1 w2 → ¬ S b → It k w2))
    (HD : Hid (∀ (k : Nat) (x : XE) (w1 : World), Chg (fun x => x = b) w w1 → es[k]? = some x → Calls Tryd.prog 39 #[.slice x.A x.m x.p] w1 (OutsPost x.l w1))) :
    Calls Tryd.prog 60 #[.iface 189 (.pointer (some ⟨b, 0, none⟩)), .nilIface, .int .i64 n, .bool false, .bool hit] w (WalkP n hit es b w) := by
  obtain ⟨i0, hi, hz0, hz1, hz2⟩ := info_parts info_irow
  obtain ⟨aE, rfl⟩ := hE
  have HI := Lib.hid hI
  clear hI
  go_enter Tryd.func60, Tryd.ntmps60
  go_wp2
  go_loopw [1, 12] (fun er i wr => ∃ (k : Nat) (rs : List RowV) (R : Value), rs.length = k ∧ k ≤ es.length ∧ (k : Int) ≤ n ∧
      wr.heap[w.heap.size]? = some (.cells #[.int .i64 0, .bool false, .slice none 0 0] 52 (0, 0)) ∧ wr.heap[w.heap.size + 1]? = some (.cells #[.int .i64 0, .bool hit, R] 52 (0, 0)) ∧
      wr.ownsRow w.heap.size 49 2 R k (flat RowV.cells rs) ∧ RowsOk w.heap.size wr es rs ∧ Chg (fun x => x = b) w wr ∧
      ((er = .nilIface ∧ i = .int .i64 k ∧ It k wr) ∨ (er = .iface 246 (.pointer (some aE)) ∧ k = es.length ∧ i = .int .i64 (k + 1)))) (fun _ i _ => (n + 2 - intOf i).toNat)
  case atStart =>
    refine ⟨0, [], .slice none 0 0, rfl, Nat.zero_le _, h0, ?_, ?_, World.ownsRow_nil _ _ _ _, fun j e r _ h => by simp at h, ((Chg.refl _ _).alloc _).alloc _, .inl ⟨rfl, rfl, HC.out 0 w _ (fun _ => False) HI.out (((Chg.refl _ _).alloc _).alloc _) id⟩⟩
    · exact (heap_alloc_ne _ _ _ (by simp)).trans (heap_new w _)
    · have := heap_new (w.alloc (.cells #[.int .i64 0, .bool false, .slice none 0 0] 52)) (.cells #[.int .i64 0, .bool hit, .slice none 0 0] 52)
      simpa using this
  case round =>
    obtain ⟨k, rs, R, hrs, hk, hkn, hA, hB, hown, hok, hch, hor⟩ := hrel
    have HA := Lib.hid hA
    have HB := Lib.hid hB
    have HO := Lib.hid hown
    have HK := Lib.hid hok
    have HW := Lib.hid hch
    have HRS := Lib.hid hrs
    have hs := hch.size
    clear hA hB hown hok hch hrs
    rcases hor with ⟨rfl, rfl, hI⟩ | ⟨rfl, hke, rfl⟩
    · by_cases hlt : (k : Int) < n
      · have b2 : wr.cell? ⟨w.heap.size + 1, 2, none⟩ = some R := cell_of_heap HB.out 2
        have g2 : wr.frozen? ⟨w.heap.size + 1, 2, none⟩ = false := free_of_heap HB.out 2
        have hkw : IntKind.i64.wrap ((k : Int) + 1) = (k : Int) + 1 := IntWalk.i64_in _ (by omega)
        rcases Nat.lt_or_ge k es.length with hlt2 | hge
        · obtain ⟨x, hx⟩ : ∃ x, es[k]? = some x := ⟨_, List.getElem?_eq_getElem hlt2⟩
          have HX := Lib.hid hx
          have HN := Lib.hid (HS.out k x wr HW.out hI hx)
          clear hx hI b2 g2
          go_wp2_with (go_at_call 166
                       refine HN.out.mono ?_
                       rintro y w1 ⟨rfl, hI1, hc1⟩
                       have HI1 := Lib.hid hI1
                       have HC1 := Lib.hid hc1
                       have hs1 := hc1.size
                       clear hI1 hc1)
          have hW1 : Chg (fun z => z = b) w w1 := HW.out.trans HC1.out
          have HW1 := Lib.hid hW1
          have HA1 := Lib.hid (heap_chg HA.out HC1.out (by omega))
          have HB1 := Lib.hid (heap_chg HB.out HC1.out (by omega))
          have HO1 := Lib.hid (own_chg HO.out HC1.out (fun z hz h => by have := own_ge HO.out hz; omega))
          have lA := lt_of_heap HB1.out
          have b2 : w1.cell? ⟨w.heap.size + 1, 2, none⟩ = some R := cell_of_heap HB1.out 2
          clear hW1
          go_region_law
            (first
              | (refine step_append_lies _ (by rfl) _ _ _ (by rfl) w.heap.size 49 i0 _ 2 32 Tryd.underlying37 hi hz0 hz1 hz2 rfl (by omega) R k (flat RowV.cells rs) (by rfl) ((own_below HO1.out HB2.out).alloc _)
                  ⟨w2.heap.size, 0, none⟩ 1 1 [.slice A2 x.l.length c2, .int .i64 x.h] (by rfl) (by rfl) (World.news_of_block (cs := #[.slice A2 x.l.length c2, .int .i64 x.h]) (t := 49) (fr := (0, 0)) (heap_new w2 _)) (by simp [Value.oneCell'])
                  (by omega) (by simp only [maxLen]; omega) (by omega) (by have := HB2.out.size; simp; omega) (w2.heap.size + 1) (by simp) ?_
                 intro gg cap w3 hown3 hgrow hat hlt
                 have HG3 := Lib.hid hgrow
                 have HO3 := Lib.hid hown3
                 have HB3 : Hid (w3.heap[w.heap.size + 1]? = some (.cells #[.int .i64 0, .bool hit, R] 52 (0, 0))) := Lib.hid ((hgrow.block _ (by have := HB2.out.size; simp; omega) (Ne.symm (own_ne HO1.out HB1.out (by decide)))).trans ((heap_alloc_ne _ _ _ (by have := HB2.out.size; omega)).trans ((HB2.out.block _ lA).trans HB1.out)))
                 have c3 : w3.cell? ⟨w.heap.size + 1, 2, none⟩ = some R := cell_of_heap HB3.out 2
                 have f3 : w3.frozen? ⟨w.heap.size + 1, 2, none⟩ = false := free_of_heap HB3.out 2
                 clear hgrow hown3)
              | (go_simp; go_at_call 39
                 refine (HD.out k x _ (by first | exact HW1.out | exact HW1.out.drew) HX.out).mono ?_
                 rintro y w2 ⟨A2, c2, us2, rfl, hown2, hlen2, hout2, hb2⟩
                 have HB2 : Hid (Below w1.heap.size w1 w2) := (by first | exact Lib.hid hb2 | exact Lib.hid ⟨hb2.os, hb2.tape, hb2.output, hb2.size, hb2.block⟩)
                 have HO2 : Hid (w2.ownsRow w1.heap.size 58 5 (.slice A2 x.l.length c2) x.l.length (flat VV.cells us2)) := Lib.hid hown2
                 have HL2 := Lib.hid hlen2
                 have HU2 := Lib.hid hout2
                 have d2 : w2.cell? ⟨w.heap.size + 1, 2, none⟩ = some R := (World.cell?_of_block (HB2.out.block _ lA)).trans b2
                 have d3 : (w2.alloc (.cells #[.slice A2 x.l.length c2, .int .i64 x.h] 49)).cell? ⟨w.heap.size + 1, 2, none⟩ = some R := (World.cell?_of_block (heap_alloc_ne w2 (w.heap.size + 1) _ (by have := HB2.out.size; omega))).trans d2
                 clear hb2 hown2 hlen2 hout2))
          all_goals
            go_wp2
            have kc := walk_kc (a := w.heap.size + 1) HC1.out HB2.out HG3.out (.slice (some ⟨gg, 0, none⟩) (k + 1) cap)
            exact ⟨⟨k + 1, rs ++ [⟨A2, c2, x.h, us2⟩], .slice (some ⟨gg, 0, none⟩) (k + 1) cap, walk_step lb HA.out HB.out HO.out HK.out HW.out HRS.out HX.out hlt2 (by omega) kc HB3.out HO1.out HB1.out HO2.out HL2.out HU2.out HG3.out HO3.out (HC.out (k + 1) w1 _ _ HI1.out (walk_kc2 (a := w.heap.size + 1) HB2.out HG3.out _) (by rintro (h | h); exact absurd (own_ge HO1.out h) (by omega); omega))⟩, by simp [intOf]; omega⟩
        · have hke : k = es.length := by omega
          have HN := Lib.hid (HE.out wr HW.out (hke ▸ hI))
          clear hI
          go_wp2_with (go_at_call 166
                       refine HN.out.mono ?_
                       rintro y w1 ⟨rfl, hb1⟩
                       have HB1 := Lib.hid hb1
                       have hs1 := hb1.size
                       clear hb1)
          exact ⟨⟨k, rs, R, HRS.out, hk, hkn, heap_below HA.out HB1.out, heap_below HB.out HB1.out, own_below HO.out HB1.out, fun j e r he hr => (HK.out j e r he hr).chg (Chg.of_below (S := fun _ => False) HB1.out) (fun _ _ h => h), HW.out.trans (Chg.of_below HB1.out), .inr ⟨rfl, hke, by rw [hke]⟩⟩, by simp [intOf]; omega⟩
      · obtain ⟨A', c', rfl⟩ := own_form HO.out
        have a0 := cell_of_heap HA.out 0
        have a1 := cell_of_heap HA.out 1
        have a2 := cell_of_heap HA.out 2
        have b0 := cell_of_heap HB.out 0
        have b1 := cell_of_heap HB.out 1
        have b2 := cell_of_heap HB.out 2
        have g0 := free_of_heap HA.out 0
        have g1 := free_of_heap HA.out 1
        have g2 := free_of_heap HA.out 2
        have hn' := hk
        go_wp2
        obtain ⟨W, hW⟩ : ∃ W, W = ((wr.setCell ⟨w.heap.size, 0, none⟩ (.int .i64 0)).setCell ⟨w.heap.size, 1, none⟩ (.bool hit)).setCell ⟨w.heap.size, 2, none⟩ (.slice A' k c') := ⟨_, rfl⟩
        rw [← hW]
        have hh : W.heap[w.heap.size]? = some (.cells #[.int .i64 0, .bool hit, .slice A' k c'] 52 (0, 0)) := by rw [hW, heap_setCell_at, heap_setCell_at, heap_setCell_at, HA.out]; rfl
        have d0 : W.cell? ⟨w.heap.size, 0, none⟩ = some (.int .i64 0) := cell_of_heap hh 0
        have d1 : W.cell? ⟨w.heap.size, 1, none⟩ = some (.bool hit) := cell_of_heap hh 1
        have d2 : W.cell? ⟨w.heap.size, 2, none⟩ = some (.slice A' k c') := cell_of_heap hh 2
        refine bodyPost_ret (v := .agg #[.int .i64 0, .bool hit, .slice A' k c']) (by simp [results, Tryd.results60, go_sem, d0, d1, d2]) rfl ?_
        exact walk_fin HA.out HO.out HK.out HW.out (hW ▸ Chg.setCell (Chg.setCell (Chg.setCell (Chg.refl (fun x => x = w.heap.size) wr) (p := ⟨w.heap.size, _, none⟩) (.inl rfl) _) (p := ⟨w.heap.size, _, none⟩) (.inl rfl) _) (p := ⟨w.heap.size, _, none⟩) (.inl rfl) _) HRS.out hk hkn (by omega)
    · subst hke
      obtain ⟨A', c', rfl⟩ := own_form HO.out
      have a0 := cell_of_heap HA.out 0
      have a1 := cell_of_heap HA.out 1
      have a2 := cell_of_heap HA.out 2
      have b0 := cell_of_heap HB.out 0
      have b1 := cell_of_heap HB.out 1
      have b2 := cell_of_heap HB.out 2
      have g0 := free_of_heap HA.out 0
      have g1 := free_of_heap HA.out 1
      have g2 := free_of_heap HA.out 2
      have hn' := hk
      go_wp2
      obtain ⟨W, hW⟩ : ∃ W, W = ((wr.setCell ⟨w.heap.size, 0, none⟩ (.int .i64 0)).setCell ⟨w.heap.size, 1, none⟩ (.bool hit)).setCell ⟨w.heap.size, 2, none⟩ (.slice A' es.length c') := ⟨_, rfl⟩
      rw [← hW]
      have hh : W.heap[w.heap.size]? = some (.cells #[.int .i64 0, .bool hit, .slice A' es.length c'] 52 (0, 0)) := by rw [hW, heap_setCell_at, heap_setCell_at, heap_setCell_at, HA.out]; rfl
      have d0 : W.cell? ⟨w.heap.size, 0, none⟩ = some (.int .i64 0) := cell_of_heap hh 0
      have d1 : W.cell? ⟨w.heap.size, 1, none⟩ = some (.bool hit) := cell_of_heap hh 1
      have d2 : W.cell? ⟨w.heap.size, 2, none⟩ = some (.slice A' es.length c') := cell_of_heap hh 2
      refine bodyPost_ret (v := .agg #[.int .i64 0, .bool hit, .slice A' es.length c']) (by simp [results, Tryd.results60, go_sem, d0, d1, d2]) rfl ?_
      exact walk_fin HA.out HO.out HK.out HW.out (hW ▸ Chg.setCell (Chg.setCell (Chg.setCell (Chg.refl (fun x => x = w.heap.size) wr) (p := ⟨w.heap.size, _, none⟩) (.inl rfl) _) (p := ⟨w.heap.size, _, none⟩) (.inl rfl) _) (p := ⟨w.heap.size, _, none⟩) (.inl rfl) _) HRS.out hk hkn (by omega)

end Go.Proofs.YtffgkocokkhahaaDoor

/- impl.indexWalk where there is nothing; through an index from its first entry on, and from its last one back. -/
namespace Go.Proofs.YtffgkocokkhahaaDoor
open Go.RowKit

theorem walk_first {P : List Pg} {b t : Nat} {ver : Int} {E : Value} {c : Int} {fi la r : Value} {w : World} {n : Int} {hit : Bool} (h0 : 0 ≤ n) (h1 : n ≤ 1000000) (hch : Chain w (.pointer none) P (.pointer none)) (hn : ∀ p ∈ P, 1 ≤ p.2.length) (hpb : ∀ p ∈ P, ¬ p.1 = b)
    (ht : TreeW w t c fi la r ver) (htb : ¬ t = b) (hE : HasEof w E) (hbE : ¬ 0 = b) (h : AtN P w b t ver false E 0) (lb : b < w.heap.size)
    (HD : Hid (∀ (k : Nat) (x : XE) (w1 : World), Chg (fun x => x = b) w w1 → (ents P)[k]? = some x → Calls Tryd.prog 39 #[.slice x.A x.m x.p] w1 (OutsPost x.l w1))) :
    Calls Tryd.prog 60 #[.iface 189 (.pointer (some ⟨b, 0, none⟩)), .nilIface, .int .i64 n, .bool true, .bool hit] w (WalkP n hit (ents P) b w) := by
  refine walk_next b n hit (ents P) (fun k w1 => AtN P w1 b t ver false E k) E w h0 h1 lb hE.form h (Lib.hid fun k x w1 hc hi hx => ?_) (Lib.hid fun w1 hc hi => ?_) (Lib.hid fun k w1 w2 S hi hc hS => hi.chg hc hS) HD
  · exact Next2_step x (chain_chg hch hc hpb) hn (ht.chg hc htb) (hE.chg hc hbE) hbE hi hx
  · generalize hg : (ents P).length = g at hi
    cases hi with
    | at_ hP hi h =>
      subst hP
      rw [ents_append] at hg
      simp [ents] at hg
      omega
    | end_ h => exact Next2_stop hE.form h

theorem walk_last {P : List Pg} {b t : Nat} {ver : Int} {E : Value} {c : Int} {fi la r : Value} {w : World} {n : Int} {hit : Bool} (h0 : 0 ≤ n) (h1 : n ≤ 1000000) (hch : Chain w (.pointer none) P (.pointer none)) (hn : ∀ p ∈ P, 1 ≤ p.2.length) (hpb : ∀ p ∈ P, ¬ p.1 = b)
    (ht : TreeW w t c fi la r ver) (htb : ¬ t = b) (hE : HasEof w E) (hbE : ¬ 0 = b) (h : AtP P w b t ver false E (ents P).length) (lb : b < w.heap.size)
    (HD : Hid (∀ (k : Nat) (x : XE) (w1 : World), Chg (fun x => x = b) w w1 → (ents P).reverse[k]? = some x → Calls Tryd.prog 39 #[.slice x.A x.m x.p] w1 (OutsPost x.l w1))) :
    Calls Tryd.prog 60 #[.iface 189 (.pointer (some ⟨b, 0, none⟩)), .nilIface, .int .i64 n, .bool false, .bool hit] w (WalkP n hit (ents P).reverse b w) := by
  refine walk_prev b n hit (ents P).reverse (fun k w1 => AtP P w1 b t ver false E ((ents P).length - k)) E w h0 h1 lb hE.form h (Lib.hid fun k x w1 hc hi hx => ?_) (Lib.hid fun w1 hc hi => ?_) (Lib.hid fun k w1 w2 S hi hc hS => hi.chg hc hS) HD
  · have hk : k < (ents P).length := by
      have := (List.getElem?_eq_some_iff.1 hx).1
      simpa using this
    have e1 : (ents P).length - k = ((ents P).length - (k + 1)) + 1 := by omega
    have hx' : (ents P)[(ents P).length - (k + 1)]? = some x := by
      rw [List.getElem?_reverse hk] at hx
      rw [← hx]
      congr 1
      omega
    rw [e1] at hi
    exact Prev2_step x (chain_chg hch hc hpb) hn (ht.chg hc htb) (hE.chg hc hbE) hbE hi hx'
  · rw [List.length_reverse, Nat.sub_self] at hi
    generalize hg : (0 : Nat) = g at hi
    cases hi with
    | at_ hP hi h => omega
    | end_ h => exact Prev2_stop hE.form h

end Go.Proofs.YtffgkocokkhahaaDoor

/- impl.indexWalk where there is nothing. -/
namespace Go.Proofs.YtffgkocokkhahaaDoor
open Go.RowKit

set_option maxRecDepth 100000 in
set_option maxHeartbeats 3200000 in
theorem walk_none (it E : Value) (n : Int) (nx hit : Bool) (w : World) (hE : ∃ a, E = .iface 246 (.pointer (some a))) :
    Calls Tryd.prog 60 #[it, E, .int .i64 n, .bool nx, .bool hit] w fun y w' => y = .returned (.agg #[.int .i64 0, .bool hit, .slice none 0 0]) ∧ Below w.heap.size w w' := by
  obtain ⟨aE, rfl⟩ := hE
  go_enter Tryd.func60, Tryd.ntmps60
  go_wp2
  go_loopw [1, 12] (fun er i wr => er = .iface 246 (.pointer (some aE)) ∧ i = .int .i64 0 ∧
      wr.heap[w.heap.size]? = some (.cells #[.int .i64 0, .bool false, .slice none 0 0] 52 (0, 0)) ∧ wr.heap[w.heap.size + 1]? = some (.cells #[.int .i64 0, .bool hit, .slice none 0 0] 52 (0, 0)) ∧ Below w.heap.size w wr) (fun _ _ _ => 0)
  case atStart =>
    refine ⟨rfl, rfl, ?_, ?_, below_al2 w _ _⟩
    · exact (heap_alloc_ne _ _ _ (by simp)).trans (heap_new w _)
    · have := heap_new (w.alloc (.cells #[.int .i64 0, .bool false, .slice none 0 0] 52)) (.cells #[.int .i64 0, .bool hit, .slice none 0 0] 52)
      simpa using this
  case round =>
    obtain ⟨rfl, rfl, hA, hB, hb⟩ := hrel
    have HA := Lib.hid hA
    have HB := Lib.hid hb
    have a0 := cell_of_heap HA.out 0
    have a1 := cell_of_heap HA.out 1
    have a2 := cell_of_heap HA.out 2
    have b0 := cell_of_heap hB 0
    have b1 := cell_of_heap hB 1
    have b2 := cell_of_heap hB 2
    have g0 := free_of_heap HA.out 0
    have g1 := free_of_heap HA.out 1
    have g2 := free_of_heap HA.out 2
    clear hA hB hb
    go_wp2
    obtain ⟨W, hW⟩ : ∃ W, W = ((wr.setCell ⟨w.heap.size, 0, none⟩ (.int .i64 0)).setCell ⟨w.heap.size, 1, none⟩ (.bool hit)).setCell ⟨w.heap.size, 2, none⟩ (.slice none 0 0) := ⟨_, rfl⟩
    rw [← hW]
    have hh : W.heap[w.heap.size]? = some (.cells #[.int .i64 0, .bool hit, .slice none 0 0] 52 (0, 0)) := by rw [hW, heap_setCell_at, heap_setCell_at, heap_setCell_at, HA.out]; rfl
    have d0 : W.cell? ⟨w.heap.size, 0, none⟩ = some (.int .i64 0) := cell_of_heap hh 0
    have d1 : W.cell? ⟨w.heap.size, 1, none⟩ = some (.bool hit) := cell_of_heap hh 1
    have d2 : W.cell? ⟨w.heap.size, 2, none⟩ = some (.slice none 0 0) := cell_of_heap hh 2
    refine bodyPost_ret (v := .agg #[.int .i64 0, .bool hit, .slice none 0 0]) (by simp [results, Tryd.results60, go_sem, d0, d1, d2]) rfl ?_
    have hc : Chg (fun x => x = w.heap.size) wr W := hW ▸ Chg.setCell (Chg.setCell (Chg.setCell (Chg.refl (fun x => x = w.heap.size) wr) (p := ⟨w.heap.size, _, none⟩) (.inl rfl) _) (p := ⟨w.heap.size, _, none⟩) (.inl rfl) _) (p := ⟨w.heap.size, _, none⟩) (.inl rfl) _
    have k1 : Chg (fun _ => False) w W := (Chg.of_below HB.out).next hc (fun x hx h => by omega)
    exact ⟨rfl, k1.below (Nat.le_refl _) (fun _ h => h.elim)⟩

end Go.Proofs.YtffgkocokkhahaaDoor

/- An index and the data of its keys: Create, SeekFirst, SeekLast and indexWalk of it. -/
namespace Go.Proofs.YtffgkocokkhahaaDoor
open Go.RowKit

def XE.key (e : XE) : Key := ⟨e.l, e.h⟩
def RowV.key (r : RowV) : Key := ⟨r.us, r.h⟩
def Key.xe (k : Key) : XE := ⟨k.l, none, 0, 0, k.h, 0⟩

/-- An entry whose values lie among D. -/
structure EOk (D : Nat → Prop) (w : World) (e : XE) : Prop where
  len : e.m = e.l.length
  conc : ConcL e.l
  short : e.l.length ≤ 1000
  lo : 0 ≤ e.h
  hi : e.h ≤ 9223372036854775807
  data : ∃ vs, InsD D w e.l e.A vs

theorem EOk.chg {D S : Nat → Prop} {w w' : World} {e : XE} (h : EOk D w e) (hc : Chg S w w') (hn : ∀ k, D k → ¬ S k) : EOk D w' e := by
  obtain ⟨vs, hd⟩ := h.data
  exact ⟨h.len, h.conc, h.short, h.lo, h.hi, vs, hd.chg hc hn⟩
theorem EOk.mono {D E : Nat → Prop} {w : World} {e : XE} (h : EOk D w e) (hn : ∀ k, D k → E k) : EOk E w e := by
  obtain ⟨vs, hd⟩ := h.data
  exact ⟨h.len, h.conc, h.short, h.lo, h.hi, vs, hd.mono hn⟩
theorem EOk.ins {D : Nat → Prop} {w : World} {e : XE} (h : EOk D w e) : Ins w e.l (.slice e.A e.m e.p) := by
  obtain ⟨vs, hd⟩ := h.data
  rw [h.len]
  exact ⟨e.A, e.p, vs, rfl, hd.reads, hd.rep⟩

theorem IdxAt.chg {T S : Nat → Prop} {w w' : World} {x m t n r : Nat} {L : Value} {uni : Bool} {es : List XE} (h : IdxAt w x m t n r L uni S es) (hc : Chg T w w') (hx : ¬ T x) (hm : ¬ T m) (hM : ∀ k, Mut S r L k → ¬ T k) : IdxAt w' x m t n r L uni S es :=
  ⟨heap_chg (show w.heap[x]? = _ from h.idx) hc hx, h.tree.chg hc (fun k hk => hM k (.inl hk)), h.store.chg hc hm (hM r (.inr (.inl rfl))) (fun b hb => hM b (.inr (.inr hb))), h.apart⟩

theorem IdxAt.lt {S : Nat → Prop} {w : World} {x m t n r : Nat} {L : Value} {uni : Bool} {es : List XE} (h : IdxAt w x m t n r L uni S es) : x < w.heap.size ∧ m < w.heap.size ∧ ∀ k, Mut S r L k → k < w.heap.size := by
  have hl := h.store.lt
  refine ⟨lt_of_heap (show w.heap[x]? = _ from h.idx), hl.1, ?_⟩
  rintro k (hk | rfl | hk)
  · exact h.tree.lt k hk
  · exact hl.2.1
  · exact hl.2.2 k hk

/-- An index of so many deeds whose keys, in order, are ks; what changes it changes M alone; its data are D. -/
structure Ix (x : Nat) (n : Nat) (ks : List Key) (M D : Nat → Prop) (w : World) : Prop where
  ex : ∃ m t r L S es, IdxAt w x m t n r L false S es ∧ (∀ k, Mut S r L k ↔ M k) ∧ es.map XE.key = ks ∧ (∀ e ∈ es, EOk D w e) ∧ D m
  self : D x
  data : ∀ k, D k → k < w.heap.size ∧ ¬ M k

theorem Ix.lt {x n : Nat} {ks : List Key} {M D : Nat → Prop} {w : World} (h : Ix x n ks M D w) {k : Nat} (hk : M k) : k < w.heap.size := by
  obtain ⟨m, t, r, L, S, es, hi, hM, _⟩ := h.ex
  exact hi.lt.2.2 k ((hM k).2 hk)

theorem Ix.chg {T : Nat → Prop} {x n : Nat} {ks : List Key} {M D : Nat → Prop} {w w' : World} (h : Ix x n ks M D w) (hc : Chg T w w') (hM : ∀ k, M k → ¬ T k) (hD : ∀ k, D k → ¬ T k) : Ix x n ks M D w' := by
  obtain ⟨m, t, r, L, S, es, hi, hm, he, hk, hdm⟩ := h.ex
  exact ⟨⟨m, t, r, L, S, es, hi.chg hc (hD x h.self) (hD m hdm) (fun k hk => hM k ((hm k).1 hk)), hm, he, fun e h => (hk e h).chg hc hD, hdm⟩, h.self, fun k hk => ⟨Nat.lt_of_lt_of_le (h.data k hk).1 hc.size, (h.data k hk).2⟩⟩

theorem Ix.below {x n : Nat} {ks : List Key} {M D : Nat → Prop} {w w' : World} (h : Ix x n ks M D w) (hb : Below w.heap.size w w') : Ix x n ks M D w' := h.chg (Chg.of_below (S := fun _ => False) hb) (fun _ _ h => h) (fun _ _ h => h)

theorem Ix.more {x n : Nat} {ks : List Key} {M D E : Nat → Prop} {w : World} (h : Ix x n ks M D w) (hE : ∀ k, D k → E k) (hd : ∀ k, E k → k < w.heap.size ∧ ¬ M k) : Ix x n ks M E w := by
  obtain ⟨m, t, r, L, S, es, hi, hm, he, hk, hdm⟩ := h.ex
  exact ⟨⟨m, t, r, L, S, es, hi, hm, he, fun e h => (hk e h).mono hE, hE m hdm⟩, hE x h.self, hd⟩

def IxCreateP (x n : Nat) (ks : List Key) (M D : Nat → Prop) (w : World) (y : Ending) (w' : World) : Prop :=
  y = .returned .nilIface ∧ ∃ M', Ix x n ks M' D w' ∧ Chg M w w' ∧ ∀ k, M' k → M k ∨ w.heap.size ≤ k

theorem map_key_ins {es : List XE} {e : XE} {g : Nat} : (es.take g ++ e :: es.drop g).map XE.key = (es.map XE.key).take g ++ e.key :: (es.map XE.key).drop g := by simp [List.map_take, List.map_drop]

theorem ix_create {x n nn : Nat} {ks : List Key} {M D : Nat → Prop} {w : World} (h : Ix x n ks M D w) {us : List VV} {A : Option Addr} {c : Nat} {hd : Int} {vs : List Value} (hI : InsD D w us A vs) (hu : ConcL us) (h0 : 0 ≤ hd) (h1 : hd ≤ 9223372036854775807) (hn : n ≤ 100000) (hlen : ks.length ≤ 12800)
    (hus : us.length = nn) (hks : ∀ k ∈ ks, k.l.length = nn) (hnn : nn ≤ 1000) {g : Nat} (hp : Pos (signK ⟨us, hd⟩ ks) ks.length g false) :
    Calls Tryd.prog 54 #[.pointer (some ⟨x, 0, none⟩), .slice A us.length c, .int .i64 hd] w (IxCreateP x (n + 1) (insK ⟨us, hd⟩ ks) M D w) := by
  obtain ⟨m, t, r, L, S, es, hi, hm, he, hk, hdm⟩ := h.ex
  have hlk : ks.length = es.length := by rw [← he]; simp
  have hat : ∀ (j : Nat) (e' : XE), es[j]? = some e' → ks[j]? = some e'.key := fun j e' hj => by rw [← he, List.getElem?_map, hj]; rfl
  have hme : ∀ (j : Nat) (e' : XE), es[j]? = some e' → EOk D w e' ∧ e'.l.length = nn := fun j e' hj => ⟨hk e' (List.mem_of_getElem? hj), hks e'.key (List.mem_of_getElem? (hat j e' hj))⟩
  have hcr := create_any x m t n r L S es ⟨us, A, us.length, c, hd, 0⟩ rfl g (fun j => match es[j]? with | some e' => collV us e'.l | none => 0) (signK ⟨us, hd⟩ ks) w hi hn (by omega) h0 h1
    (fun w' hc j e' hj => ⟨(hme j e' hj).1.lo, (hme j e' hj).1.hi, fun w'' hb => by
      have hno : ∀ k, D k → ¬ Mut S r L k := fun k hk hM => (h.data k hk).2 ((hm k).1 hM)
      have hI' := hI.chg hc hno
      have i1 : Ins w' us (.slice A us.length c) := ⟨A, c, vs, rfl, hI'.reads, hI'.rep⟩
      have i2 := ((hme j e' hj).1.chg hc hno).ins
      have := collate_any us e'.l (by rw [hus, (hme j e' hj).2]) (by omega) hu (hme j e' hj).1.conc _ _ w'' (i1.below hb) (i2.below hb)
      simp only [hj]
      exact this⟩)
    (fun j e' hj => by
      simp only [hj]
      rw [signK_at (hat j e' hj), collV_lex us e'.l hu.plain (hme j e' hj).1.conc.plain]
      rfl)
    (by rw [← hlk]; exact hp)
  refine hcr.mono ?_
  rintro y w' ⟨rfl, S', L', hi', hc', hM'⟩
  have hxm : ∀ k, D k → ¬ Mut S r L k := fun k hk hM => (h.data k hk).2 ((hm k).1 hM)
  refine ⟨rfl, Mut S' r L', ⟨⟨m, t, r, L', S', _, hi', fun _ => Iff.rfl, ?_, ?_, hdm⟩, h.self, fun k hk => ⟨Nat.lt_of_lt_of_le (h.data k hk).1 hc'.size, fun hM => ?_⟩⟩, hc'.mono (fun k _ hk => (hm k).1 hk), fun k hk => (hM' k hk).imp (hm k).1 id⟩
  · rw [map_key_ins, he, insK_pos hp]
    rfl
  · intro e' he'
    rcases List.mem_append.1 he' with h' | h'
    · exact (hk e' (List.mem_of_mem_take h')).chg hc' hxm
    · rcases List.mem_cons.1 h' with rfl | h'
      · exact ⟨rfl, hu, by simp only; omega, h0, h1, vs, hI.chg hc' hxm⟩
      · exact (hk e' (List.mem_of_mem_drop h')).chg hc' hxm
  · rcases hM' k hM with h' | h'
    · exact hxm k hk h'
    · have := (h.data k hk).1; omega

/-- Rows that came out, of keys. -/
structure AnsRows (B : Nat) (w : World) (ks : List Key) (R : Value) (rs : List RowV) : Prop where
  len : rs.length = ks.length
  own : w.ownsRow B 49 2 R ks.length (flat RowV.cells rs)
  rows : ∀ (j : Nat) (k : Key) (r : RowV), ks[j]? = some k → rs[j]? = some r → RowOk B w k.xe r

theorem AnsRows.chg {B : Nat} {S : Nat → Prop} {w w' : World} {ks : List Key} {R : Value} {rs : List RowV} (h : AnsRows B w ks R rs) (hc : Chg S w w') (hn : ∀ k, B ≤ k → k < w.heap.size → ¬ S k) : AnsRows B w' ks R rs :=
  ⟨h.len, own_chg h.own hc (fun b hb => hn b (own_ge h.own hb) (own_lt h.own hb)), fun j k r hk hr => (h.rows j k r hk hr).chg hc (fun b hb => hn b (own_ge (h.rows j k r hk hr).own hb) (own_lt (h.rows j k r hk hr).own hb))⟩

def IxWalkP (ks : List Key) (b : Nat) (w : World) (y : Ending) (w' : World) : Prop :=
  ∃ R rs, y = .returned (.agg #[.int .i64 0, .bool false, R]) ∧ AnsRows w.heap.size w' ks R rs ∧ Chg (fun z => z = b) w w'

theorem ixwalk_of {n : Int} {es : List XE} {b : Nat} {w : World} {y : Ending} {w' : World} (h : WalkP n false es b w y w') (hn : (es.length : Int) ≤ n) : IxWalkP (es.map XE.key) b w y w' := by
  obtain ⟨R, k, rs, rfl, hown, hlen, hk, hkn, hke, hrows, hc⟩ := h
  obtain rfl : k = es.length := by omega
  refine ⟨R, rs, rfl, ⟨by simp [hlen], by simpa using hown, fun j key r hkey hr => ?_⟩, hc⟩
  rw [List.getElem?_map] at hkey
  obtain ⟨e, he, rfl⟩ := Option.map_eq_some_iff.1 hkey
  have h := hrows j e r he hr
  exact ⟨h.h, h.len, h.outs, h.own⟩

/-- What an index hands out, and what goes through it then. -/
def IxSeekP (ks : List Key) (N : Int) (nx : Bool) (w : World) (y : Ending) (w1 : World) : Prop :=
  ∃ b, y = .returned (.tuple #[.iface 189 (.pointer (some ⟨b, 0, none⟩)), .nilIface]) ∧ w.heap.size ≤ b ∧ Below w.heap.size w w1 ∧
    ∀ w2, Below w1.heap.size w1 w2 → Calls Tryd.prog 60 #[.iface 189 (.pointer (some ⟨b, 0, none⟩)), .nilIface, .int .i64 N, .bool nx, .bool false] w2 (IxWalkP ks b w2)

theorem enum_lt {w : World} {P : List Pg} {b t : Nat} {ver : Int} {uni : Bool} {E : Value} {g : Nat} (h : AtN P w b t ver uni E g) : b < w.heap.size := by
  cases h with
  | at_ _ _ h => exact lt_of_heap h
  | end_ h => exact lt_of_heap h
theorem enum_ltP {w : World} {P : List Pg} {b t : Nat} {ver : Int} {uni : Bool} {E : Value} {g : Nat} (h : AtP P w b t ver uni E g) : b < w.heap.size := by
  cases h with
  | at_ _ _ h => exact lt_of_heap h
  | end_ h => exact lt_of_heap h

theorem ix_hd {D : Nat → Prop} {w w2 : World} {es : List XE} {b : Nat} (hk : ∀ e ∈ es, EOk D w e) (hb : Below w.heap.size w w2) (hD : ∀ k, D k → ¬ k = b) {fs : List XE} (hf : ∀ e ∈ fs, e ∈ es) :
    Hid (∀ (k : Nat) (x : XE) (w1 : World), Chg (fun x => x = b) w2 w1 → fs[k]? = some x → Calls Tryd.prog 39 #[.slice x.A x.m x.p] w1 (OutsPost x.l w1)) := by
  refine Lib.hid fun k x w1 hc hx => ?_
  have h := ((hk x (hf x (List.mem_of_getElem? hx))).chg (Chg.of_below (S := fun _ => False) hb) (fun _ _ h => h)).chg hc hD
  obtain ⟨vs, hd⟩ := h.data
  rw [h.len]
  exact outs_any x.l x.A x.p vs w1 hd.reads hd.rep h.conc.good (by have := h.short; omega)

theorem ix_first {x n : Nat} {ks : List Key} {M D : Nat → Prop} {w : World} (h : Ix x n ks M D w) {E : Value} (hE : HasEof w E) {N : Int} (hN : (ks.length : Int) ≤ N) (hN1 : N ≤ 1000000) (hks : ks ≠ []) :
    Calls Tryd.prog 59 #[.pointer (some ⟨x, 0, none⟩)] w (IxSeekP ks N true w) := by
  obtain ⟨m, t, r, L, S, es, hi, hm, he, hk, hdm⟩ := h.ex
  obtain ⟨P, c, rt, ver, hP, hP0, hch, hsz, ht, hPS, hSt⟩ := tree_pages hi.tree (by rintro rfl; exact hks he.symm)
  refine (first_at (E := E) hch hsz hP0 ht hi.idx).mono ?_
  rintro y w1 ⟨b, rfl, hat, hlo, hb⟩
  refine ⟨b, rfl, hlo, hb, fun w2 hb2 => ?_⟩
  have hb02 := up_below' hb hb2
  have hno : ∀ k, k < w.heap.size → ¬ k = b := fun k hk e => by omega
  have hcF : Chg (fun _ => False) w w2 := Chg.of_below hb02
  have lb1 := enum_lt hat
  have hw := walk_first (P := P) (b := b) (t := t) (ver := ver) (E := E) (w := w2) (n := N) (hit := false) (by omega) hN1 (chain_chg hch hcF (fun _ _ h => h)) hsz (fun p hp => hno _ (chain_lt hch p hp)) (ht.chg hcF id) (hno t (lt_of_heap ht)) (hE.below hb02) (hno _ hE.lt)
    (hat.chg (Chg.of_below (S := fun _ => False) hb2) id) (Nat.lt_of_lt_of_le lb1 hb2.size) (ix_hd hk hb02 (fun k hk => hno k (h.data k hk).1) (fun e he' => by rw [hP] at he'; exact he'))
  refine hw.mono ?_
  intro y w' hP'
  rw [hP] at hP'
  have := ixwalk_of hP' (by rw [← he] at hN; simpa using hN)
  rw [he] at this
  exact this

theorem ix_last {x n : Nat} {ks : List Key} {M D : Nat → Prop} {w : World} (h : Ix x n ks M D w) {E : Value} (hE : HasEof w E) {N : Int} (hN : (ks.length : Int) ≤ N) (hN1 : N ≤ 1000000) (hks : ks ≠ []) :
    Calls Tryd.prog 61 #[.pointer (some ⟨x, 0, none⟩)] w (IxSeekP ks.reverse N false w) := by
  obtain ⟨m, t, r, L, S, es, hi, hm, he, hk, hdm⟩ := h.ex
  obtain ⟨P, c, rt, ver, hP, hP0, hch, hsz, ht, hPS, hSt⟩ := tree_pages hi.tree (by rintro rfl; exact hks he.symm)
  refine (last_at (E := E) hch hsz hP0 ht hi.idx).mono ?_
  rintro y w1 ⟨b, rfl, hat, hlo, hb⟩
  refine ⟨b, rfl, hlo, hb, fun w2 hb2 => ?_⟩
  have hb02 := up_below' hb hb2
  have hno : ∀ k, k < w.heap.size → ¬ k = b := fun k hk e => by omega
  have hcF : Chg (fun _ => False) w w2 := Chg.of_below hb02
  have lb1 := enum_ltP hat
  have hw := walk_last (P := P) (b := b) (t := t) (ver := ver) (E := E) (w := w2) (n := N) (hit := false) (by omega) hN1 (chain_chg hch hcF (fun _ _ h => h)) hsz (fun p hp => hno _ (chain_lt hch p hp)) (ht.chg hcF id) (hno t (lt_of_heap ht)) (hE.below hb02) (hno _ hE.lt)
    (hat.chg (Chg.of_below (S := fun _ => False) hb2) id) (Nat.lt_of_lt_of_le lb1 hb2.size) (ix_hd hk hb02 (fun k hk => hno k (h.data k hk).1) (fun e he' => by rw [hP] at he'; simpa using he'))
  refine hw.mono ?_
  intro y w' hP'
  rw [hP] at hP'
  have := ixwalk_of hP' (by rw [← he] at hN; simpa using hN)
  rw [List.map_reverse, he] at this
  exact this

end Go.Proofs.YtffgkocokkhahaaDoor

/- Lists of rows in memory. -/
namespace Go.Proofs.YtffgkocokkhahaaDoor
open Go.RowKit

theorem RowV.two (r : RowV) : r.cells.length = 2 := rfl
theorem VV.five (x : VV) : x.cells.length = 5 := rfl

theorem add_off (a : Addr) (k j : Nat) (hj : j ≠ 0) : a.add (k + j) = ⟨(a.add k).block, (a.add k).off + j, none⟩ := by
  unfold Addr.add
  by_cases hk : k = 0
  · subst hk
    rw [if_neg (by omega), if_pos rfl, Nat.zero_add]
  · rw [if_neg (by omega), if_neg hk, Nat.add_assoc]

/-- Rows lie in memory, each with its values. -/
def RowsAt (w : World) (A : Option Addr) (rows : List RowV) : Prop :=
  ∀ (i : Nat) (r : RowV), rows[i]? = some r → (∃ ad, A = some ad ∧ (ad.add (i * 2)).block < w.heap.size ∧ w.cell? (ad.add (i * 2)) = some (.slice r.A r.us.length r.c) ∧ w.cell? ⟨(ad.add (i * 2)).block, (ad.add (i * 2)).off + 1, none⟩ = some (.int .i64 r.h)) ∧ LAt w r.A r.us

theorem RowsAt.below {w w' : World} {A : Option Addr} {rows : List RowV} (h : RowsAt w A rows) (hb : Below w.heap.size w w') : RowsAt w' A rows := by
  intro i r hr
  obtain ⟨⟨ad, rfl, hlt, h0, h1⟩, hl⟩ := h i r hr
  refine ⟨⟨ad, rfl, Nat.lt_of_lt_of_le hlt hb.size, ?_, ?_⟩, hl.below hb⟩
  all_goals (rw [hb.cell (by exact hlt)]; assumption)

theorem lat_reads {w : World} {A : Option Addr} {l : List VV} {n : Nat} (h : Reads w w.heap.size 5 A n (flat VV.cells l)) (hn : l.length = n) : LAt w A l := by
  intro i x hx
  have hi := (List.getElem?_eq_some_iff.1 hx).1
  obtain ⟨ad, rfl, hlt, hc⟩ := h.2 (by omega)
  have hat : ∀ (j : Nat) (v : Value), j < 5 → x.cells[j]? = some v → w.cell? (ad.add (i * 5 + j)) = some v := fun j v hj hv => hc _ _ (flat_at VV.cells 5 VV.five l i x j v hx hj hv)
  refine ⟨ad, rfl, by rw [block_add]; exact hlt, hat 0 _ (by omega) rfl, ?_, ?_, ?_, ?_⟩
  · rw [← add_off ad (i * 5) 1 (by decide)]; exact hat 1 _ (by omega) rfl
  · rw [← add_off ad (i * 5) 2 (by decide)]; exact hat 2 _ (by omega) rfl
  · rw [← add_off ad (i * 5) 3 (by decide)]; exact hat 3 _ (by omega) rfl
  · rw [← add_off ad (i * 5) 4 (by decide)]; exact hat 4 _ (by omega) rfl

theorem lat_own {w : World} {B n c : Nat} {e : TypeId} {A : Option Addr} {l : List VV} (h : w.ownsRow B e 5 (.slice A n c) n (flat VV.cells l)) (hn : l.length = n) : LAt w A l := lat_reads (Reads.of_own h) hn

theorem rows_reads {w : World} {A : Option Addr} {rows : List RowV} {n : Nat} (h : Reads w w.heap.size 2 A n (flat RowV.cells rows)) (hn : rows.length = n) (hv : ∀ (i : Nat) (r : RowV), rows[i]? = some r → LAt w r.A r.us) : RowsAt w A rows := by
  intro i r hr
  have hi := (List.getElem?_eq_some_iff.1 hr).1
  obtain ⟨ad, rfl, hlt, hc⟩ := h.2 (by omega)
  have hat : ∀ (j : Nat) (v : Value), j < 2 → r.cells[j]? = some v → w.cell? (ad.add (i * 2 + j)) = some v := fun j v hj hv => hc _ _ (flat_at RowV.cells 2 RowV.two rows i r j v hr hj hv)
  refine ⟨⟨ad, rfl, by rw [block_add]; exact hlt, hat 0 _ (by omega) rfl, ?_⟩, hv i r hr⟩
  rw [← add_off ad (i * 2) 1 (by decide)]; exact hat 1 _ (by omega) rfl

theorem rows_own {w : World} {B n c : Nat} {e : TypeId} {A : Option Addr} {rows : List RowV} (h : w.ownsRow B e 2 (.slice A n c) n (flat RowV.cells rows)) (hn : rows.length = n) (hv : ∀ (i : Nat) (r : RowV), rows[i]? = some r → LAt w r.A r.us) : RowsAt w A rows := rows_reads (Reads.of_own h) hn hv

/-- A row whose fields are those of its types. -/
structure RowRng (r : RowV) : Prop where
  vals : ∀ (j : Nat) (x : VV), r.us[j]? = some x → Rng x.n x.u x.f
  len : r.us.length ≤ maxLen
  h : (Lit.int .i64 r.h).wf = true

theorem RowRng.hi {r : RowV} (h : RowRng r) : r.h ≤ 9223372036854775807 := by
  have hn := h.h
  simp only [Lit.wf, Bool.and_eq_true, decide_eq_true_eq, IntKind.min, IntKind.max, IntKind.signed, IntKind.bits, if_true, Nat.reduceSub, Int.reducePow, Int.reduceSub, Int.reduceNeg] at hn
  exact hn.2

/-- Rows that came out lie in memory. -/
theorem AnsRows.at_ {B : Nat} {w : World} {ks : List Key} {A : Option Addr} {n c : Nat} {rs : List RowV} (h : AnsRows B w ks (.slice A n c) rs) : RowsAt w A rs ∧ n = rs.length := by
  have hn : n = ks.length := by
    obtain ⟨A', c', e⟩ := own_form h.own
    injection e
  refine ⟨rows_own (n := n) (c := c) (by have := h.own; rw [← hn] at this; exact this) (by rw [h.len, hn]) (fun i r hr => ?_), by rw [h.len, hn]⟩
  have hi := (List.getElem?_eq_some_iff.1 hr).1
  have hi2 : i < ks.length := by rw [← h.len]; exact hi
  have := h.rows i ks[i] r (List.getElem?_eq_getElem hi2) hr
  exact lat_own this.own rfl

end Go.Proofs.YtffgkocokkhahaaDoor

/- A row put among rows; rows in order. No program. -/
namespace Go.Proofs.YtffgkocokkhahaaDoor
open Go.RowKit

theorem ins_cells {rows : List RowV} {r : RowV} {zc rest : List Value} (hz : zc.length = 2) {k : Nat} (hk : k ≤ rows.length) :
    splice (splice (flat RowV.cells rows ++ (zc ++ rest)) ((k + 1) * 2) (flat RowV.cells (rows.drop k))) (k * 2) r.cells = flat RowV.cells (rows.take k ++ r :: rows.drop k) ++ rest := by
  have hT : (flat RowV.cells (rows.take k)).length = k * 2 := by rw [flat_length RowV.cells 2 RowV.two, List.length_take]; omega
  have e1 : flat RowV.cells rows = flat RowV.cells (rows.take k) ++ flat RowV.cells (rows.drop k) := by rw [← flat_append, List.take_append_drop]
  rw [flat_append, flat_cons, e1]
  generalize flat RowV.cells (rows.take k) = T at *
  generalize flat RowV.cells (rows.drop k) = D at *
  have e2 : T ++ D ++ (zc ++ rest) = (T ++ (D ++ zc).take 2) ++ ((D ++ zc).drop 2 ++ rest) := by
    have : (D ++ zc).take 2 ++ ((D ++ zc).drop 2 ++ rest) = D ++ (zc ++ rest) := by rw [← List.append_assoc, List.take_append_drop, List.append_assoc]
    rw [List.append_assoc, List.append_assoc, this]
  have h2 : ((D ++ zc).take 2).length = 2 := by simp [hz]
  have h3 : ((D ++ zc).drop 2).length = D.length := by simp [hz]
  rw [e2, splice_mid _ _ _ D _ (by simp only [List.length_append, h2, hT]; omega) h3, List.append_assoc, splice_mid T _ (D ++ rest) r.cells _ hT.symm (by rw [h2]; rfl)]
  simp

theorem map_key_insR {rows : List RowV} {r : RowV} {g : Nat} : (rows.take g ++ r :: rows.drop g).map RowV.key = (rows.map RowV.key).take g ++ r.key :: (rows.map RowV.key).drop g := by simp [List.map_take, List.map_drop]

/-- Rows of as many values each, which can be compared; no two of one handle. -/
structure RowsGood (rows : List RowV) (n : Nat) : Prop where
  keys : KeysOk (rows.map RowV.key) n
  conc : ∀ r ∈ rows, ConcL r.us
  lo : ∀ r ∈ rows, 1 ≤ r.h
  hi : ∀ r ∈ rows, r.h ≤ 9223372036854775807

theorem RowsGood.len {rows : List RowV} {n : Nat} (h : RowsGood rows n) {r : RowV} (hr : r ∈ rows) : r.us.length = n := h.keys.len r.key (List.mem_map.2 ⟨r, hr, rfl⟩)

end Go.Proofs.YtffgkocokkhahaaDoor

/- Deeds to an index and their answers, in memory. -/
namespace Go.Proofs.YtffgkocokkhahaaDoor
open Go.RowKit

def createS : ByteArray := ⟨#[99, 114, 101, 97, 116, 101]⟩
def firstS : ByteArray := ⟨#[102, 105, 114, 115, 116]⟩
def lastS : ByteArray := ⟨#[108, 97, 115, 116]⟩

structure DeedV where
  op : ByteArray
  A : Option Addr
  c : Nat
  h : Int
  N : Int
  us : List VV
def DeedV.cells (d : DeedV) : List Value := [.string d.op, .slice d.A d.us.length d.c, .int .i64 d.h, .int .i64 d.N]
theorem DeedV.four (d : DeedV) : d.cells.length = 4 := rfl

def RowV.deed (r : RowV) : DeedV := ⟨createS, r.A, r.c, r.h, 0, r.us⟩
def endDeed (N : Int) (b : Bool) : DeedV := ⟨if b then firstS else lastS, none, 0, 0, N, []⟩

/-- Deeds lie in memory, each with its values. -/
def DeedsAt (w : World) (A : Option Addr) (ds : List DeedV) : Prop :=
  ∀ (i : Nat) (d : DeedV), ds[i]? = some d → (∃ ad, A = some ad ∧ (ad.add (i * 4)).block < w.heap.size ∧ w.cell? (ad.add (i * 4)) = some (.string d.op) ∧ w.cell? ⟨(ad.add (i * 4)).block, (ad.add (i * 4)).off + 1, none⟩ = some (.slice d.A d.us.length d.c) ∧
    w.cell? ⟨(ad.add (i * 4)).block, (ad.add (i * 4)).off + 2, none⟩ = some (.int .i64 d.h) ∧ w.cell? ⟨(ad.add (i * 4)).block, (ad.add (i * 4)).off + 3, none⟩ = some (.int .i64 d.N)) ∧ LAt w d.A d.us

theorem DeedsAt.below {w w' : World} {A : Option Addr} {ds : List DeedV} (h : DeedsAt w A ds) (hb : Below w.heap.size w w') : DeedsAt w' A ds := by
  intro i r hr
  obtain ⟨⟨ad, rfl, hlt, h0, h1, h2, h3⟩, hl⟩ := h i r hr
  refine ⟨⟨ad, rfl, Nat.lt_of_lt_of_le hlt hb.size, ?_, ?_, ?_, ?_⟩, hl.below hb⟩
  all_goals (rw [hb.cell (by exact hlt)]; assumption)

theorem deeds_reads {w : World} {A : Option Addr} {ds : List DeedV} {n : Nat} (h : Reads w w.heap.size 4 A n (flat DeedV.cells ds)) (hn : ds.length = n) (hv : ∀ d ∈ ds, LAt w d.A d.us) : DeedsAt w A ds := by
  intro i r hr
  have hi := (List.getElem?_eq_some_iff.1 hr).1
  obtain ⟨ad, rfl, hlt, hc⟩ := h.2 (by omega)
  have hat : ∀ (j : Nat) (v : Value), j < 4 → r.cells[j]? = some v → w.cell? (ad.add (i * 4 + j)) = some v := fun j v hj hv => hc _ _ (flat_at DeedV.cells 4 DeedV.four ds i r j v hr hj hv)
  refine ⟨⟨ad, rfl, by rw [block_add]; exact hlt, hat 0 _ (by omega) rfl, ?_, ?_, ?_⟩, hv r (List.mem_of_getElem? hr)⟩
  · rw [← add_off ad (i * 4) 1 (by decide)]; exact hat 1 _ (by omega) rfl
  · rw [← add_off ad (i * 4) 2 (by decide)]; exact hat 2 _ (by omega) rfl
  · rw [← add_off ad (i * 4) 3 (by decide)]; exact hat 3 _ (by omega) rfl

structure AnsV where
  R : Value
  rs : List RowV
def AnsV.cells (a : AnsV) : List Value := [.int .i64 0, .bool false, a.R]
theorem AnsV.three (a : AnsV) : a.cells.length = 3 := rfl

/-- An answer's memory lies among D. -/
structure AnsIn (D : Nat → Prop) (a : AnsV) : Prop where
  R : ∀ b, a.R.ownBlock = some b → D b
  rs : ∀ r ∈ a.rs, ∀ b, (Value.slice r.A r.us.length r.c).ownBlock = some b → D b
theorem AnsIn.mono {D E : Nat → Prop} {a : AnsV} (h : AnsIn D a) (hn : ∀ k, D k → E k) : AnsIn E a := ⟨fun b hb => hn b (h.R b hb), fun r hr b hb => hn b (h.rs r hr b hb)⟩

theorem AnsRows.in_ {B : Nat} {w : World} {ks : List Key} {a : AnsV} (h : AnsRows B w ks a.R a.rs) : AnsIn (fun k => B ≤ k ∧ k < w.heap.size) a := by
  refine ⟨fun b hb => ⟨own_ge h.own hb, own_lt h.own hb⟩, fun r hr b hb => ?_⟩
  obtain ⟨i, hi, rfl⟩ := List.getElem_of_mem hr
  have hi2 : i < ks.length := by rw [← h.len]; exact hi
  have := h.rows i ks[i] _ (List.getElem?_eq_getElem hi2) (List.getElem?_eq_getElem hi)
  exact ⟨own_ge this.own hb, own_lt this.own hb⟩
theorem AnsRows.keep {B : Nat} {S D : Nat → Prop} {w w' : World} {ks : List Key} {a : AnsV} (h : AnsRows B w ks a.R a.rs) (hi : AnsIn D a) (hc : Chg S w w') (hn : ∀ k, D k → ¬ S k) : AnsRows B w' ks a.R a.rs :=
  ⟨h.len, own_chg h.own hc (fun b hb => hn b (hi.R b hb)), fun j k r hk hr => (h.rows j k r hk hr).chg hc (fun b hb => hn b (hi.rs r (List.mem_of_getElem? hr) b hb))⟩
theorem AnsRows.mono {B C : Nat} {w : World} {ks : List Key} {R : Value} {rs : List RowV} (h : AnsRows B w ks R rs) (hb : C ≤ B) : AnsRows C w ks R rs :=
  ⟨h.len, own_mono h.own hb, fun j k r hk hr => by have g := h.rows j k r hk hr; exact ⟨g.h, g.len, g.outs, own_mono g.own hb⟩⟩

def want (ks : List Key) (b : Bool) : List Key := if b then sortK ks else (sortK ks).reverse

/-- The answers to so many deeds: each row created, then what is found from the ends. -/
structure Answers (B : Nat) (w : World) (ks : List Key) (tl : List Bool) (av : List AnsV) : Prop where
  nil : ∀ (j : Nat) (a : AnsV), j < ks.length → av[j]? = some a → a.R = .slice none 0 0
  rows : ∀ (j : Nat) (b : Bool) (a : AnsV), tl[j]? = some b → av[ks.length + j]? = some a → AnsRows B w (want ks b) a.R a.rs

theorem want_length (ks : List Key) (b : Bool) : (want ks b).length = ks.length := by unfold want; split <;> simp [length_sortK]

end Go.Proofs.YtffgkocokkhahaaDoor

/- The package-level error of division by zero, and the number that an error gets: not 0. It needs that the variable holds what the program's text lays into it. -/
namespace Go.Proofs.YtffgkocokkhahaaDoor
open Go.RowKit

/-- An error of package errors lies in memory. -/
def Er (w : World) (p : Addr) : Prop := ∃ (c : Array Value) (t : TypeId), w.heap[p.block]? = some (.cells c t (0, 0))

theorem Er.of {w w' : World} {p : Addr} (h : Er w p) (hb : Below w.heap.size w w') : Er w' p := by
  obtain ⟨c, t, h⟩ := h
  have hlt : p.block < w.heap.size := by
    rcases Nat.lt_or_ge p.block w.heap.size with h' | h'
    · exact h'
    · rw [Array.getElem?_eq_none h'] at h; cases h
  exact ⟨c, t, by rw [hb.block _ hlt]; exact h⟩

/-- The variable holds an error of package errors. -/
structure Has (w : World) (a : Addr) : Prop where
  lt : 1 < w.heap.size
  cell : w.cell? ⟨1, 0, none⟩ = some (.iface 246 (.pointer (some a)))
  er : Er w a

theorem Has.of {w w' : World} {a : Addr} (h : Has w a) (hb : Below w.heap.size w w') : Has w' a where
  lt := Nat.lt_of_lt_of_le h.lt hb.size
  cell := by rw [hb.cell (p := ⟨1, 0, none⟩) h.lt]; exact h.cell
  er := h.er.of hb

theorem erComp : (Tryd.prog.info? 246).map (·.comparable) = some true := by kernel_rfl
theorem erSize : (Tryd.prog.info? 248).map (fun i => i.size == 0) = some false := by kernel_rfl

theorem eql_same (a : Addr) (w : World) : (binOp .eql 72 (.iface 246 (.pointer (some a))) (.iface 246 (.pointer (some a)))).run Tryd.prog w = .ok (.bool true) w := by
  obtain ⟨i, hi, hcmp⟩ := Option.map_eq_some_iff.1 erComp
  obtain ⟨j, hj, hjs⟩ := Option.map_eq_some_iff.1 erSize
  exact run_eql_iface_ptr_same w a Tryd.underlying72 Tryd.underlying246 hi hcmp hj

theorem eql_other (a b : Addr) (w : World) (hne : b ≠ a) (ha : Er w a) (hb : Er w b) : (binOp .eql 72 (.iface 246 (.pointer (some b))) (.iface 246 (.pointer (some a)))).run Tryd.prog w = .ok (.bool false) w := by
  obtain ⟨i, hi, hcmp⟩ := Option.map_eq_some_iff.1 erComp
  obtain ⟨j, hj, hjs⟩ := Option.map_eq_some_iff.1 erSize
  obtain ⟨ca, ta, ha⟩ := ha
  obtain ⟨cb, tb, hb⟩ := hb
  exact run_eql_iface_ptr_other w Tryd.underlying72 Tryd.underlying246 hi hcmp hj (beq_eq_false_iff_ne.1 hjs) hne hb ha

set_option maxRecDepth 100000 in
set_option maxHeartbeats 1000000 in
theorem zzErr_nil (w : World) : Calls Tryd.prog 53 #[.nilIface] w fun e w' => e = .returned (.int .i64 0) ∧ w = w' := by
  go_enter Tryd.func53, Tryd.ntmps53
  go_wp2
  go_ret
  exact ⟨rfl, rfl⟩

@[go_sem] theorem as_dup (v : Value) (w : World) : (Instr.typeAssert (.iface 246 v) 72 177 true).run Tryd.prog w = .ok (.tuple #[.slice none 0 0, .bool false]) w := by kernel_rfl

/-- Of an error of package errors the number is not 0. -/
def CodePost (w : World) (e : Ending) (w' : World) : Prop := ∃ c : Int, e = .returned (.int .i64 c) ∧ c ≠ 0 ∧ w = w'

set_option maxRecDepth 100000 in
set_option maxHeartbeats 1000000 in
theorem zzErr_some (a b : Addr) (w : World) (h : Has w a) (hb : Er w b) : Calls Tryd.prog 53 #[.iface 246 (.pointer (some b))] w (CodePost w) := by
  have hc := h.cell
  by_cases hab : b = a
  · have hq := eql_same a w
    subst hab
    clear h hb
    go_enter Tryd.func53, Tryd.ntmps53
    go_wp2
    go_ret
    exact ⟨_, rfl, by decide, rfl⟩
  · have hq := eql_other a b w hab h.er hb
    clear h hb
    go_enter Tryd.func53, Tryd.ntmps53
    go_wp2
    go_ret
    exact ⟨_, rfl, by decide, rfl⟩

/-- An error of package errors is returned; what was there is as it was. -/
def ErPost (w : World) (e : Ending) (w' : World) : Prop := ∃ p, e = .returned (.iface 246 (.pointer (some p))) ∧ Er w' p ∧ Below w.heap.size w w'

theorem er_alloc (w : World) (c : Array Value) (t : TypeId) : Er (w.alloc (.cells c t)) ⟨w.heap.size, 0, none⟩ := ⟨c, t, by show (w.heap.push (.cells c t))[w.heap.size]? = _; simp⟩

set_option maxHeartbeats 400000 in
theorem errNew_er (s : ByteArray) (w : World) : Calls Tryd.prog 89 #[.string s] w (ErPost w) := by
  go_enter Tryd.func89, Tryd.ntmps89
  go_wp2
  go_ret
  exact ⟨_, rfl, er_alloc _ _ _, by repeat (first | exact Below.refl _ _ | exact (Below.refl _ _).alloc (Nat.le_refl _) _ | refine Below.drew ?_ | refine Below.setCell ?_ (by first | omega | (simp; omega) | simp) _ | refine Below.alloc ?_ (by first | omega | (simp; omega) | simp) _ | refine below_drewN ?_ _ | refine up_below ?_ (Nat.le_refl _) (by assumption))⟩

end Go.Proofs.YtffgkocokkhahaaDoor

/- impl.fault, deferred, in a frame that returns: recover finds nothing. -/
namespace Go.Proofs.YtffgkocokkhahaaDoor
open Go.RowKit

theorem fault_idle (p : Addr) (w : World) :
    CallsD Tryd.prog 52 #[.pointer (some p)] .returning w fun e u' w' => e = .returned (.tuple #[]) ∧ u' = .returning ∧ w' = w := by
  refine callsD_of_wpS Tryd.func52 rfl fun c₀ cs hu => ?_
  apply wpS_seq
  apply wpS_region
  simp [wpOpsS, go_sem, recoverD, hu, Tryd.ntmps52, Exit.thenS]
  refine wpS_cond (t := false) (by simp [Act.eval, Array.replicate]) ?_
  simp only [Bool.false_eq_true, if_false]
  refine wpS_of_wp (wp_skip ?_)
  cases c₀
  simp_all [bodyPostS, results, Tryd.results52]

end Go.Proofs.YtffgkocokkhahaaDoor
