/-
  (*tree).Set of a key that is not there. || (*tree).Set of a key that is not there, under a root. || Where a key stands under a root: what find tells at the root and in the page; the places of a key that is there. || (*tree).Set of a key that is there: its entry gets another value. || (*tree).cat and (*tree).underflow under a root: the tree that comes of it. || (*tree).underflow under a root, whatever the neighbours.
-/
import Derived.Test.YtffgkocokkhahaaDoorTp20
import Derived.LoopN
import Derived.Outline
import Derived.Test.YtffgkocokkhahaaDoorTp19

/- (*tree).Set of a key that is not there. -/
namespace Go.Proofs.YtffgkocokkhahaaDoor
open Go.RowKit
variable {dsc : Bool}

set_option maxRecDepth 100000 in
set_option maxHeartbeats 1000000 in
theorem set_none (t : Nat) (e : XE) (ver : Int) (w : World) (ht : TreeW (cmpV dsc) w t 0 (.pointer none) (.pointer none) .nilIface ver) :
    Calls Tryd.prog 37 #[.pointer (some ⟨t, 0, none⟩), .slice e.A e.m e.p, .slice e.B e.n e.q] w (GrowP (cmpV dsc) t [e] (fun k => k = t) w) := by
  have ct4 : w.cell? ⟨t, 4, none⟩ = some .nilIface := cell_of_heap ht 4
  have lt := lt_of_heap ht
  have htn : ¬ t = w.heap.size := by omega
  have HT := Lib.hid ht
  have HB := Lib.hid (show Below w.heap.size w (w.alloc (.cells Tryd.zeroCells132 132)) from (Below.refl _ _).alloc (Nat.le_refl _) _)
  have HP := Lib.hid (show PageAt (w.alloc (.cells Tryd.zeroCells132 132)) w.heap.size [] zroom (.pointer none) (.pointer none) from ⟨by
    rw [heap_new w, zd_eq], by rw [zroom_len]; rfl, zroom_one⟩)
  clear ht
  go_enter Tryd.func37, Tryd.ntmps37
  go_wp2_with (go_at_call 72; refine (insert_any t w.heap.size 0 [] zroom _ _ e 0 _ _ _ ver _ HP.out (heap_below HT.out HB.out) htn (Nat.le_refl _) (by simp) (by omega) (by omega)).mono ?_; rintro y w2 ⟨rfl, hp2, ⟨ver2, ht2⟩, hc2⟩; have dt1 := cell_of_heap ht2 2; have dt2 := cell_of_heap ht2 3; have dt3 := cell_of_heap ht2 4; have gt1 := free_of_heap ht2 2; have gt2 := free_of_heap ht2 3; have gt3 := free_of_heap ht2 4; have HP2 := Lib.hid hp2; have HT2 := Lib.hid ht2; clear hp2 ht2)
  go_end0
  have hcS : Chg (fun k => k = t) w w2 := (Chg.of_below HB.out).next hc2 (fun k hk h => by rcases h with h | h; exact h; omega)
  refine ⟨rfl, _, .lone (b := w.heap.size) ⟨⟨ver2, ?_⟩, ⟨_, HP2.out.chg (Chg.setCell (Chg.setCell (Chg.setCell (Chg.refl (fun k => k = t) w2) (p := ⟨t, _, none⟩) (.inl rfl) _) (p := ⟨t, _, none⟩) (.inl rfl) _) (p := ⟨t, _, none⟩) (.inl rfl) _) (fun h => htn h.symm)⟩, by simp⟩, Chg.setCell (Chg.setCell (Chg.setCell hcS (p := ⟨t, _, none⟩) (.inl rfl) _) (p := ⟨t, _, none⟩) (.inl rfl) _) (p := ⟨t, _, none⟩) (.inl rfl) _, fun k hk => ?_⟩
  · unfold TreeW
    rw [heap_setCell_at, heap_setCell_at, heap_setCell_at, show w2.heap[t]? = _ from HT2.out]
    rfl
  · rcases hk with h | h
    · exact .inl h
    · exact .inr (by omega)

/-- What a search in a page has found: behind it the page is as it was. -/
theorem set_lone (t b i : Nat) (es : List XE) (e : XE) (cs : Nat → Int) (w : World) (h : Lone (cmpV dsc) w t b es es.length)
    (ha : Asks dsc w (.slice e.A e.m e.p) es cs) (hp : Pos cs es.length i false) :
    Calls Tryd.prog 37 #[.pointer (some ⟨t, 0, none⟩), .slice e.A e.m e.p, .slice e.B e.n e.q] w (GrowP (cmpV dsc) t (es.take i ++ e :: es.drop i) (fun k => k = t ∨ k = b) w) := by
  have hne := h.ne
  have hle := h.size
  have HW := Lib.hid h
  obtain ⟨⟨ver, ht⟩, ⟨rest, hq⟩, _⟩ := h
  have ct3 : w.cell? ⟨t, 4, none⟩ = some (.iface 123 (.pointer (some ⟨b, 0, none⟩))) := cell_of_heap ht 4
  have lt := lt_of_heap ht
  have lb := hq.lt
  have cb0 : w.cell? ⟨b, 0, none⟩ = some (.int .i64 es.length) := by rw [hq.cell]; rfl
  have HF := Lib.hid (fun w' (hb : Below w.heap.size w w') => find_leaf t b es rest _ _ e.A e.m e.p cs i false _ _ _ _ _ w' (hq.below hb) (heap_below ht hb) (ha.below hb) hp)
  have hi : i ≤ es.length := hp.le
  have HQ := Lib.hid hq
  have HT := Lib.hid ht
  have hcnt : ((es.take i ++ e :: es.drop i).length : Int) = es.length + 1 := by simp [List.length_take]; omega
  have HN := Lib.hid hcnt
  have HB0 := Lib.hid (Below.refl w.heap.size w)
  clear hq ht ha hp hcnt
  rcases Nat.lt_or_ge es.length 128 with hr | hr
  · have hrc : ((es.length : Int) < 128) = True := by simp; omega
    go_enter Tryd.func37, Tryd.ntmps37
    go_wp2_with fail
    refine wp_loop_rounds 1 ?_
    rw [rounds_succ]
    go_wp2_with (first
      | (go_at_call 70; refine (HF.out _ HB0.out).mono ?_; rintro y w1 ⟨rfl, hb1⟩; obtain ⟨hc1, hf1⟩ := bcell hb1; have hz1 : w.heap.size ≤ w1.heap.size := hb1.size; have db0 := (hc1 b 0 (by omega)).trans ((HB0.out.cell (p := ⟨b, 0, none⟩) lb).trans cb0); have lb1 : b < w1.heap.size := (by omega); have HB1 := Lib.hid ((up_below' HB0.out hb1).alloc (by omega) (.cells #[.int .i64 i] 3)))
      | (go_at_call 72; refine (insert_any t b i es rest _ _ e _ _ _ _ ver _ (HQ.out.below HB1.out) (heap_below HT.out HB1.out) hne hi (by omega) (by omega) (by omega)).mono ?_; rintro y w2 ⟨rfl, hp2, ht2, hc2⟩))
    first | go_end0 | refine bodyPost_ret (results_none rfl _ _ _) rfl ?_
    refine ⟨rfl, _, .lone (b := b) ⟨?_, ⟨_, hp2⟩, by simp [List.length_take]; omega⟩, (Chg.of_below HB1.out).next hc2 (fun k _ h => h), fun k hk => .inl hk⟩
    rw [HN.out]
    exact ht2
  · have hr2 : es.length = 128 := by omega
    have hrc : ((es.length : Int) < 128) = False := by simp; omega
    have HO := Lib.hid (fun w' (hb : Below w.heap.size w w') => over_lone t b i es e w' ⟨⟨ver, heap_below HT.out hb⟩, ⟨rest, HQ.out.below hb⟩, hle⟩ hr2 (by omega))
    go_enter Tryd.func37, Tryd.ntmps37
    go_wp2_with fail
    refine wp_loop_rounds 1 ?_
    rw [rounds_succ]
    go_wp2_with (first
      | (go_at_call 70; refine (HF.out _ HB0.out).mono ?_; rintro y w1 ⟨rfl, hb1⟩; obtain ⟨hc1, hf1⟩ := bcell hb1; have hz1 : w.heap.size ≤ w1.heap.size := hb1.size; have db0 := (hc1 b 0 (by omega)).trans ((HB0.out.cell (p := ⟨b, 0, none⟩) lb).trans cb0); have lb1 : b < w1.heap.size := (by omega); have HB1 := Lib.hid ((up_below' HB0.out hb1).alloc (by omega) (.cells #[.int .i64 i] 3)))
      | (go_at_call 73; refine (HO.out _ HB1.out).mono ?_; rintro y w2 ⟨rfl, S', hat, hc2, hS⟩))
    first | go_end0 | refine bodyPost_ret (results_none rfl _ _ _) rfl ?_
    refine ⟨rfl, _, hat, (Chg.of_below HB1.out).next hc2 (fun k _ h => h), fun k hk => ?_⟩
    rcases hS k hk with h | h
    · exact .inl h
    · exact .inr (Nat.le_trans HB1.out.size h)

end Go.Proofs.YtffgkocokkhahaaDoor

/- (*tree).Set of a key that is not there, under a root. -/
namespace Go.Proofs.YtffgkocokkhahaaDoor
open Go.RowKit
variable {dsc : Bool}

theorem put_at {A B : List Pg} {q : Nat} {es : List XE} {i g : Nat} {e : XE} (hg : g = (ents A).length + i) (hi : i ≤ es.length) :
    (ents (A ++ (q, es) :: B)).take g ++ e :: (ents (A ++ (q, es) :: B)).drop g = ents A ++ (es.take i ++ e :: es.drop i) ++ ents B := by
  subst hg
  rw [ents_append, ents_cons, List.take_append, List.drop_append, List.take_of_length_le (l := ents A) (by omega), List.drop_of_length_le (l := ents A) (by omega),
    show (ents A).length + i - (ents A).length = i by omega, List.take_append_of_le_length hi, List.drop_append_of_le_length hi]
  simp

/-- What find asks of the root. -/
theorem root_heads {w : World} {t x b0 : Nat} {bs : List Nat} {P : List Pg} {c : Int} (h : Rooted (cmpV dsc) w t x P c) (hb : Blocks P = b0 :: bs) (hn : ∀ p ∈ P, 1 ≤ p.2.length) :
    (heads P.tail).length = bs.length ∧ ∀ (j b : Nat), bs[j]? = some b → ∃ fs re nx pv e, PageAt w b fs re nx pv ∧ fs[0]? = some e ∧ (heads P.tail)[j]? = some e := by
  have hch := h.chain
  cases P with
  | nil => simp [Blocks] at hb
  | cons p P =>
    have hbs : bs = Blocks P := by simp [Blocks] at hb ⊢; exact hb.2.symm
    subst hbs
    have hn2 : ∀ q ∈ P, 1 ≤ q.2.length := fun q hq => hn q (by simp [hq])
    refine ⟨by rw [List.tail_cons, heads_len hn2]; simp [Blocks], fun j b hjb => ?_⟩
    obtain ⟨q, hq, rfl⟩ : ∃ q, P[j]? = some q ∧ q.1 = b := by
      unfold Blocks at hjb
      rw [List.getElem?_map] at hjb
      obtain ⟨q, h1, h2⟩ := Option.map_eq_some_iff.1 hjb
      exact ⟨q, h1, h2⟩
    obtain ⟨e, h1, h2, _⟩ := heads_at hn2 j q hq
    obtain ⟨re, nx, pv, hp⟩ := chain_page hch q (by simp; exact .inr (List.mem_of_getElem? hq))
    exact ⟨q.2, re, nx, pv, e, hp, h2, h1⟩

theorem Rooted.below {w w' : World} {t x : Nat} {P : List Pg} {c : Int} (h : Rooted (cmpV dsc) w t x P c) (hb : Below w.heap.size w w') : Rooted (cmpV dsc) w' t x P c := by
  obtain ⟨⟨ver, h1⟩, ⟨b0, bs, xr, h2, h3⟩, h4, h5, h6, h7⟩ := h
  exact ⟨⟨ver, heap_below h1 hb⟩, ⟨b0, bs, xr, h2, h3.below hb⟩, chain_chg h4 (Chg.of_below (S := fun _ => False) hb) (fun _ _ h => h), h5, h6, h7⟩

set_option maxRecDepth 100000 in
set_option maxHeartbeats 1000000 in
theorem set_many (t x q i g : Nat) (A B : List Pg) (es : List XE) (e : XE) (cs : Nat → Int) (w : World) (h : Rooted (cmpV dsc) w t x (A ++ (q, es) :: B) (ents (A ++ (q, es) :: B)).length) (hlen : (A ++ (q, es) :: B).length ≤ 200)
    (hg : g = (ents A).length + i) (hi : i ≤ es.length) (hi1 : A ≠ [] → 1 ≤ i)
    (ha : Asks dsc w (.slice e.A e.m e.p) (ents (A ++ (q, es) :: B)) cs) (hp : Pos cs (ents (A ++ (q, es) :: B)).length g false) :
    Calls Tryd.prog 37 #[.pointer (some ⟨t, 0, none⟩), .slice e.A e.m e.p, .slice e.B e.n e.q] w
      (GrowP (cmpV dsc) t (ents A ++ (es.take i ++ e :: es.drop i) ++ ents B) (fun k => (k = t ∨ k = x) ∨ k ∈ Blocks (A ++ (q, es) :: B)) w) := by
  have hn : ∀ p ∈ A ++ (q, es) :: B, 1 ≤ p.2.length := fun p hp => by have := (h.sizes p hp).1; omega
  obtain ⟨hxt, hne⟩ := h.ne
  obtain ⟨ver, ht⟩ := h.tree
  obtain ⟨b0, bs, xr, hbl, hx⟩ := h.root
  have hch := h.chain
  rw [chain_append] at hch
  obtain ⟨_, ⟨sq, hq⟩, _⟩ := hch
  have hlb : bs.length + 1 = A.length + (B.length + 1) := by
    have := congrArg List.length hbl
    simp [Blocks] at this
    omega
  have hsz : es.length ≤ 128 := (h.sizes (q, es) (by simp)).2
  have hbq : (b0 :: bs)[A.length]? = some q := by rw [← hbl, blocks_append, blocks_cons, List.getElem?_append_right (by simp [Blocks]), show A.length - (Blocks A).length = 0 by simp [Blocks]]; rfl
  have hcx : w.cell? ⟨x, 1 + A.length * 2, none⟩ = some (.iface 123 (.pointer (some ⟨q, 0, none⟩))) := hx.ch hbq
  have cx0 : w.cell? ⟨x, 0, none⟩ = some (.int .i64 bs.length) := by rw [hx.cell]; rfl
  have cq0 : w.cell? ⟨q, 0, none⟩ = some (.int .i64 es.length) := by rw [hq.cell]; rfl
  have ct3 : w.cell? ⟨t, 4, none⟩ = some (.iface 126 (.pointer (some ⟨x, 0, none⟩))) := cell_of_heap ht 4
  have lt := lt_of_heap ht
  have lx := hx.lt
  have lq := hq.lt
  simp only [List.length_append, List.length_cons] at hlen
  have HFX := Lib.hid (fun w' (hb : Below w.heap.size w w') => find_root t x b0 bs (heads (A ++ (q, es) :: B).tail) xr e.A e.m e.p (fun j => cs (ents ((A ++ (q, es) :: B).take (j + 1))).length) A.length false _ _ _ _ _ w' (hx.below hb) (heap_below ht hb)
    (root_heads (h.below hb) hbl hn).2 (root_heads h hbl hn).1 (by omega) ((ha.part (fun j e' he => head_at hn j e' he)).below hb) (root_pos rfl hg hi hi1 hn hp))
  have HFL := Lib.hid (fun w' (hb : Below w.heap.size w w') => find_leaf t q es sq _ _ e.A e.m e.p (fun r => cs ((ents A).length + r)) i false _ _ _ _ _ w' (hq.below hb) (heap_below ht hb) ((ha.part (fun r e' he => page_at he)).below hb) (page_pos hg hi hp))
  have HW := Lib.hid h
  have HQ := Lib.hid hq
  have HT := Lib.hid ht
  have HB0 := Lib.hid (Below.refl w.heap.size w)
  obtain ⟨k, hk⟩ : ∃ k, k = A.length := ⟨_, rfl⟩
  rw [← hk] at hcx HFX
  have hk1 : (k : Int) < 258 := by omega
  have hk2 : (0 : Int) ≤ k := by omega
  have hbc : (256 < (bs.length : Int)) = False := by simp; omega
  have HK := Lib.hid hk
  clear h hq ht ha hp hx hne hn hbl hbq hk
  go_enter Tryd.func37, Tryd.ntmps37
  go_wp2_with fail
  refine wp_loop_rounds 2 ?_
  rw [rounds_succ]
  go_wp2_with (go_at_call 70; refine (HFX.out _ HB0.out).mono ?_; rintro y w1 ⟨rfl, hb1⟩; obtain ⟨hc1, hf1⟩ := bcell hb1; have hz1 : w.heap.size ≤ w1.heap.size := hb1.size; have dx0 := (hc1 x 0 (by omega)).trans ((HB0.out.cell (p := ⟨x, 0, none⟩) lx).trans cx0); have dxk := (hc1 x (1 + k * 2) (by omega)).trans ((HB0.out.cell (p := ⟨x, 1 + k * 2, none⟩) lx).trans hcx); have dq0 := (hc1 q 0 (by omega)).trans ((HB0.out.cell (p := ⟨q, 0, none⟩) lq).trans cq0); have lx1 : x < w1.heap.size := (by omega); have lq1 : q < w1.heap.size := (by omega); have HB1 := Lib.hid (up_below' HB0.out hb1))
  obtain ⟨wa, hwa⟩ : ∃ wa, wa = (w1.alloc (.cells #[.int .i64 k] 3)).alloc (.cells #[.pointer (some ⟨x, 0, none⟩)] 126) := ⟨_, rfl⟩
  rw [← hwa]
  have hba : Below w1.heap.size w1 wa := by rw [hwa]; exact ((Below.refl _ _).alloc (Nat.le_refl _) _).alloc (by simp) _
  have ci : wa.cell? ⟨w1.heap.size, 0, none⟩ = some (.int .i64 k) := by rw [hwa]; exact cell_of_heap (heap_old (heap_new w1 _) _) 0
  have cx : wa.cell? ⟨w1.heap.size + 1, 0, none⟩ = some (.pointer (some ⟨x, 0, none⟩)) := by
    have h := heap_new (w1.alloc (.cells #[.int .i64 k] 3)) (.cells #[.pointer (some ⟨x, 0, none⟩)] 126)
    have e1 : (w1.alloc (.cells #[.int .i64 k] 3)).heap.size = w1.heap.size + 1 := by simp
    rw [e1, ← hwa] at h
    exact cell_of_heap h 0
  have HBA := Lib.hid (up_below' HB1.out hba)
  have hza : w1.heap.size < wa.heap.size := by rw [hwa]; show _ < ((w1.alloc _).alloc _).heap.size; simp; omega
  replace dxk := (hba.cell (p := ⟨x, 1 + k * 2, none⟩) lx1).trans dxk
  replace dq0 := (hba.cell (p := ⟨q, 0, none⟩) lq1).trans dq0
  have lq2 : q < wa.heap.size := by omega
  clear hwa hba dx0 hc1 hf1 hb1 hbc hcx cx0 cq0 ct3
  go_still_tail 7, (by kernel_rfl)
  obtain ⟨w2, hw2⟩ : ∃ w2, w2 = wa.drew := ⟨_, rfl⟩
  change wpList _ _ _ _ _ wa.drew
  rw [← hw2]
  have HB2 := Lib.hid (show Below w.heap.size w w2 by rw [hw2]; exact HBA.out.drew)
  replace dq0 : w2.cell? ⟨q, 0, none⟩ = some (.int .i64 es.length) := by rw [hw2]; exact dq0
  replace lq2 : q < w2.heap.size := by rw [hw2]; exact lq2
  clear hw2 dxk ci cx
  go_wp2_with fail
  rw [rounds_succ]
  rcases Nat.lt_or_ge es.length 128 with hr | hr
  · have hrc : ((es.length : Int) < 128) = True := by simp; omega
    have htq := (HW.out.ne.2 (q, es) (by simp)).2
    have hcnt : (ents (A ++ (q, es) :: B)).length ≤ 25600 := by have := ents_le HW.out.sizes; simp at this; simp; omega
    go_wp2_with (first
      | (go_at_call 70; refine (HFL.out _ HB2.out).mono ?_; rintro y w3 ⟨rfl, hb3⟩; have eq0 := (hb3.cell (p := ⟨q, 0, none⟩) lq2).trans dq0; have lq3 : q < w3.heap.size := (by have := hb3.size; omega); have HB3 := Lib.hid ((up_below' HB2.out hb3).alloc (by have h1 := HB2.out.size; have h2 := hb3.size; omega) (.cells #[.int .i64 i] 3)))
      | (go_at_call 72; refine (insert_any t q i es sq _ _ e _ _ _ _ ver _ (HQ.out.below HB3.out) (heap_below HT.out HB3.out) (fun h => htq h.symm) hi (by omega) (by omega) (by omega)).mono ?_; rintro y w4 ⟨rfl, hp4, ht4, hc4⟩))
    first | go_end0 | refine bodyPost_ret (results_none rfl _ _ _) rfl ?_
    have hE : ents (A ++ (q, es.take i ++ e :: es.drop i) :: B) = ents A ++ (es.take i ++ e :: es.drop i) ++ ents B := by simp [ents]
    have hB' : Blocks (A ++ (q, es.take i ++ e :: es.drop i) :: B) = Blocks (A ++ (q, es) :: B) := by simp [Blocks]
    have hcS : Chg (fun k => k = t ∨ k = q) w w4 := (Chg.of_below HB3.out).next hc4 (fun k _ h => h)
    obtain ⟨nA, nB, _⟩ := nodup_mid HW.out.nodup
    have hne := HW.out.ne
    refine grow_many (P := A ++ (q, es.take i ++ e :: es.drop i) :: B) (x := x) ?_ hE (hcS.mono (fun k _ hk => ?_)) (fun k hk => .inl (by rw [hB'] at hk; exact hk))
    · refine HW.out.re hB' ?_ (chain_one HW.out.chain hcS (fun p hp => ?_) (fun p hp => ?_) ⟨_, hp4⟩) (fun p hp => ?_) hcS (by rintro (g | g); exact hne.1 g; exact (hne.2 (q, es) (by simp)).1 g.symm)
      · have : ((ents (A ++ (q, es.take i ++ e :: es.drop i) :: B)).length : Int) = (ents (A ++ (q, es) :: B)).length + 1 := by
          rw [hE, ents_append, ents_cons]
          simp [List.length_take]
          omega
        rw [this]
        exact ht4
      · rintro (g | g)
        · exact (hne.2 p (by simp [hp])).2 g
        · exact nA p hp g
      · rintro (g | g)
        · exact (hne.2 p (by simp [hp])).2 g
        · exact nB p hp g
      · rcases List.mem_append.1 hp with hp | hp
        · exact HW.out.sizes p (by simp [hp])
        · rcases List.mem_cons.1 hp with rfl | hp
          · have := (HW.out.sizes (q, es) (by simp)).1
            simp at this
            simp [List.length_take]
            omega
          · exact HW.out.sizes p (by simp [hp])
    · rcases hk with g | g
      · exact .inl (.inl g)
      · exact .inr (by rw [g]; simp [Blocks])
  · have hr2 : es.length = 128 := by omega
    have hrc : ((es.length : Int) < 128) = False := by simp; omega
    have HO := Lib.hid (fun w' (hb : Below w.heap.size w w') => over_root t x q i A B es e w' (HW.out.below hb) hr2 (by omega) hi1 (by simp; omega))
    rw [← HK.out] at HO
    go_wp2_with (first
      | (go_at_call 70; refine (HFL.out _ HB2.out).mono ?_; rintro y w3 ⟨rfl, hb3⟩; have eq0 := (hb3.cell (p := ⟨q, 0, none⟩) lq2).trans dq0; have lq3 : q < w3.heap.size := (by have := hb3.size; omega); have HB3 := Lib.hid ((up_below' HB2.out hb3).alloc (by have h1 := HB2.out.size; have h2 := hb3.size; omega) (.cells #[.int .i64 i] 3)))
      | (go_at_call 73; refine (HO.out _ HB3.out).mono ?_; rintro y w4 ⟨rfl, S', hat, hc4, hS⟩))
    first | go_end0 | refine bodyPost_ret (results_none rfl _ _ _) rfl ?_
    refine ⟨rfl, _, hat, (Chg.of_below HB3.out).next hc4 (fun k _ h => h), fun k hk => ?_⟩
    rcases hS k hk with h | h
    · exact .inl h
    · exact .inr (Nat.le_trans HB3.out.size h)

/-- Set of a key that is not there. -/
theorem set_any (t : Nat) (L : List XE) (S : Nat → Prop) (e : XE) (g : Nat) (cs : Nat → Int) (w : World) (h : TreeAt (cmpV dsc) w t L S) (hlen : L.length ≤ 12800)
    (ha : Asks dsc w (.slice e.A e.m e.p) L cs) (hp : Pos cs L.length g false) :
    Calls Tryd.prog 37 #[.pointer (some ⟨t, 0, none⟩), .slice e.A e.m e.p, .slice e.B e.n e.q] w (GrowP (cmpV dsc) t (L.take g ++ e :: L.drop g) S w) := by
  cases h with
  | none h =>
    obtain ⟨ver, h⟩ := h
    have := set_none t e ver w h
    simpa using this
  | lone h => exact set_lone t _ g L e cs w h ha hp
  | many h =>
    rename_i x P
    have hP : P ≠ [] := by rintro rfl; have := h.two; simp at this
    obtain ⟨A, q, es, B, i, rfl, hg, hi, hi1⟩ := place P g hP hp.le
    have hl := h.pages
    rw [put_at hg hi]
    exact set_many t x q i g A B es e cs w h (by omega) hg hi hi1 ha hp

end Go.Proofs.YtffgkocokkhahaaDoor

/- Where a key stands under a root: what find tells at the root and in the page; the places of a key that is there. -/
namespace Go.Proofs.YtffgkocokkhahaaDoor
open Go.RowKit
variable {dsc : Bool} {G : Value}

/-- What a rooted tree tells of one of its pages. -/
theorem Rooted.at_ {w : World} {t x q : Nat} {A B : List Pg} {es : List XE} {c : Int} (h : Rooted G w t x (A ++ (q, es) :: B) c) :
    ∃ ver b0 bs xr sq, TreeW G w t c (hdp (A ++ (q, es) :: B) (.pointer none)) (lastp (.pointer none) (A ++ (q, es) :: B)) (.iface 126 (ptr x)) ver ∧ RootAt w x b0 bs xr ∧ Blocks (A ++ (q, es) :: B) = b0 :: bs ∧
      PageAt w q es sq (hdp B (.pointer none)) (lastp (.pointer none) A) ∧ (b0 :: bs)[A.length]? = some q ∧ bs.length = A.length + B.length ∧ w.cell? ⟨x, 0, none⟩ = some (.int .i64 bs.length) ∧
      w.cell? ⟨x, 1 + A.length * 2, none⟩ = some (.iface 123 (.pointer (some ⟨q, 0, none⟩))) ∧ w.cell? ⟨q, 0, none⟩ = some (.int .i64 es.length) := by
  obtain ⟨ver, ht⟩ := h.tree
  obtain ⟨b0, bs, xr, hbl, hx⟩ := h.root
  have hch := h.chain
  rw [chain_append] at hch
  obtain ⟨_, ⟨sq, hq⟩, _⟩ := hch
  have hlb : bs.length = A.length + B.length := by
    have := congrArg List.length hbl
    simp [Blocks] at this
    omega
  have hbq : (b0 :: bs)[A.length]? = some q := by rw [← hbl, blocks_append, blocks_cons, List.getElem?_append_right (by simp [Blocks]), show A.length - (Blocks A).length = 0 by simp [Blocks]]; rfl
  exact ⟨ver, b0, bs, xr, sq, ht, hx, hbl, hq, hbq, hlb, by rw [hx.cell]; rfl, hx.ch hbq, by rw [hq.cell]; rfl⟩

theorem Rooted.one {w : World} {t x : Nat} {P : List Pg} {c : Int} (h : Rooted G w t x P c) : ∀ p ∈ P, 1 ≤ p.2.length := fun p hp => by have := (h.sizes p hp).1; omega

theorem find_top {w : World} {t x k : Nat} {P : List Pg} {c : Int} {ok : Bool} {kA : Option Addr} {m p : Nat} {cs : Nat → Int} (h : Rooted (cmpV dsc) w t x P c) (hlen : P.length ≤ 200) (ha : Asks dsc w (.slice kA m p) (ents P) cs)
    (hp : Pos (fun t => cs (ents (P.take (t + 1))).length) (heads P.tail).length k ok) :
    Hid (∀ w', Below w.heap.size w w' → Calls Tryd.prog 70 #[.pointer (some ⟨t, 0, none⟩), .iface 126 (.pointer (some ⟨x, 0, none⟩)), .slice kA m p] w' (FindP k ok w')) := by
  have hn := h.one
  obtain ⟨ver, ht⟩ := h.tree
  obtain ⟨b0, bs, xr, hbl, hx⟩ := h.root
  have hlb : bs.length + 1 = P.length := by
    have := congrArg List.length hbl
    simp [Blocks] at this
    omega
  exact Lib.hid (fun w' (hb : Below w.heap.size w w') => find_root t x b0 bs (heads P.tail) xr kA m p (fun j => cs (ents (P.take (j + 1))).length) k ok _ _ _ _ _ w' (hx.below hb) (heap_below ht hb)
    (root_heads (h.below hb) hbl hn).2 (root_heads h hbl hn).1 (by omega) ((ha.part (fun j e' he => head_at hn j e' he)).below hb) hp)

theorem find_page {w : World} {t x q i : Nat} {A B : List Pg} {es : List XE} {c : Int} {ok : Bool} {kA : Option Addr} {m p : Nat} {cs : Nat → Int} (h : Rooted (cmpV dsc) w t x (A ++ (q, es) :: B) c) (ha : Asks dsc w (.slice kA m p) (ents (A ++ (q, es) :: B)) cs)
    (hp : Pos (fun r => cs ((ents A).length + r)) es.length i ok) :
    Hid (∀ w', Below w.heap.size w w' → Calls Tryd.prog 70 #[.pointer (some ⟨t, 0, none⟩), .iface 123 (.pointer (some ⟨q, 0, none⟩)), .slice kA m p] w' (FindP i ok w')) := by
  obtain ⟨ver, b0, bs, xr, sq, ht, _, _, hq, _⟩ := h.at_
  exact Lib.hid (fun w' (hb : Below w.heap.size w w') => find_leaf t q es sq _ _ kA m p (fun r => cs ((ents A).length + r)) i ok _ _ _ _ _ w' (hq.below hb) (heap_below ht hb) ((ha.part (fun r e' he => page_at he)).below hb) hp)

theorem find_lone {w : World} {t b i : Nat} {es : List XE} {c : Int} {ok : Bool} {kA : Option Addr} {m p : Nat} {cs : Nat → Int} (h : Lone (cmpV dsc) w t b es c) (ha : Asks dsc w (.slice kA m p) es cs) (hp : Pos cs es.length i ok) :
    Hid (∀ w', Below w.heap.size w w' → Calls Tryd.prog 70 #[.pointer (some ⟨t, 0, none⟩), .iface 123 (.pointer (some ⟨b, 0, none⟩)), .slice kA m p] w' (FindP i ok w')) := by
  obtain ⟨⟨ver, ht⟩, ⟨rest, hq⟩, _⟩ := h
  exact Lib.hid (fun w' (hb : Below w.heap.size w w') => find_leaf t b es rest _ _ kA m p cs i ok _ _ _ _ _ w' (hq.below hb) (heap_below ht hb) (ha.below hb) hp)

/-! ### The places of a key that is there -/

section
variable {P A B : List Pg} {q : Nat} {es : List XE} {i g t : Nat} {s : Nat → Int}

theorem offs_low (hP : P = A ++ (q, es) :: B) (ht : t < A.length) : (ents (P.take (t + 1))).length ≤ (ents A).length := by
  have h1 : (ents (P.take (t + 1))).length ≤ (ents (P.take A.length)).length := ents_take_le (by omega)
  have h2 : P.take A.length = A := by rw [hP, List.take_left' rfl]
  rw [h2] at h1
  exact h1

theorem drop_some {t : Nat} (hn : ∀ p ∈ P, 1 ≤ p.2.length) (ht : t < P.length) : (ents (P.take t)).length < (ents P).length := by
  have hd : P.drop t ≠ [] := by
    intro he
    have := congrArg List.length he
    rw [List.length_drop] at this
    simp at this
    omega
  obtain ⟨p, r, hpr⟩ := List.exists_cons_of_ne_nil hd
  have hp1 := hn p (by have : p ∈ P.drop t := by rw [hpr]; simp
                       exact List.mem_of_mem_drop this)
  conv => rhs; rw [← List.take_append_drop t P, ents_append, List.length_append, hpr, ents_cons, List.length_append]
  omega

theorem offs_less (hP : P = A ++ (q, es) :: B) (hn : ∀ p ∈ P, 1 ≤ p.2.length) (ht : t + 1 < A.length) : (ents (P.take (t + 1))).length < (ents A).length := by
  have h2 : P.take (t + 1) = A.take (t + 1) := by rw [hP, List.take_append_of_le_length (by omega)]
  rw [h2]
  exact drop_some (fun p hp => hn p (by rw [hP]; simp [hp])) (by omega)

theorem offs_high (hP : P = A ++ (q, es) :: B) (hn : ∀ p ∈ P, 1 ≤ p.2.length) (h1 : A.length ≤ t) (h2 : t < A.length + B.length) : (ents A).length + es.length ≤ (ents (P.take (t + 1))).length ∧ (ents (P.take (t + 1))).length < (ents P).length := by
  have h3 : (ents (P.take (A.length + 1))).length ≤ (ents (P.take (t + 1))).length := ents_take_le (by omega)
  have h4 : P.take (A.length + 1) = A ++ [(q, es)] := by
    rw [hP, show A ++ (q, es) :: B = (A ++ [(q, es)]) ++ B by simp]
    exact List.take_left' (by simp)
  rw [h4, ents_append] at h3
  exact ⟨by simp [ents] at h3 ⊢; omega, drop_some hn (by rw [hP]; simp; omega)⟩

/-- At the root: which page, where the key is there and is not the page's first. -/
theorem root_in (hP : P = A ++ (q, es) :: B) (hg : g = (ents A).length + i) (hi : i < es.length) (hi1 : A ≠ [] → 1 ≤ i)
    (hn : ∀ p ∈ P, 1 ≤ p.2.length) (hs : Pos s (ents P).length g true) : Pos (fun t => s (ents (P.take (t + 1))).length) (heads P.tail).length A.length false := by
  have hl : (heads P.tail).length = A.length + B.length := by
    rw [heads_len (fun p hp => hn p (List.mem_of_mem_tail hp)), hP]
    simp
  have hneg : ∀ t, A.length ≤ t → t < A.length + B.length → s (ents (P.take (t + 1))).length < 0 := fun t h1 h2 => by
    obtain ⟨h3, h4⟩ := offs_high hP hn h1 h2
    exact hs.behind _ (by omega) h4
  refine ⟨by rw [hl]; omega, fun t ht => hs.ahead _ ?_, fun t h1 h2 => hneg t (by omega) (by rw [hl] at h2; exact h2), fun h => (by cases h), fun _ h => hneg _ (Nat.le_refl _) (by rw [hl] at h; exact h)⟩
  have h1 := offs_low hP ht
  have := hi1 (by rintro rfl; simp at ht)
  omega

/-- At the root: the key is a page's first. -/
theorem root_hit {r : Nat} (hP : P = A ++ (q, es) :: B) (hr : A.length = r + 1) (hg : g = (ents A).length) (h1 : 1 ≤ es.length)
    (hn : ∀ p ∈ P, 1 ≤ p.2.length) (hs : Pos s (ents P).length g true) : Pos (fun t => s (ents (P.take (t + 1))).length) (heads P.tail).length r true := by
  have hl : (heads P.tail).length = A.length + B.length := by
    rw [heads_len (fun p hp => hn p (List.mem_of_mem_tail hp)), hP]
    simp
  have he : (ents (P.take (r + 1))).length = g := by rw [← hr, hP, List.take_left' rfl, hg]
  refine ⟨by rw [hl]; omega, fun t ht => hs.ahead _ (by have := offs_less (t := t) hP hn (by omega); omega), fun t h2 h3 => ?_, fun _ => ⟨by rw [hl]; omega, ?_⟩, fun h => (by cases h)⟩
  · obtain ⟨h4, h5⟩ := offs_high (t := t) hP hn (by omega) (by rw [hl] at h3; exact h3)
    exact hs.behind _ (by omega) h5
  · show s (ents (P.take (r + 1))).length = 0
    rw [he]
    exact (hs.hit rfl).2

theorem page_hit (hg : g = (ents A).length + i) (hi : i < es.length) (hs : Pos s (ents (A ++ (q, es) :: B)).length g true) : Pos (fun r => s ((ents A).length + r)) es.length i true := by
  have hl : (ents (A ++ (q, es) :: B)).length = (ents A).length + (es.length + (ents B).length) := by rw [ents_append, ents_cons]; simp
  rw [hl] at hs
  refine ⟨by omega, fun r hr => hs.ahead _ (by omega), fun r h1 h2 => hs.behind _ (by omega) (by omega), fun _ => ⟨hi, ?_⟩, fun h => (by cases h)⟩
  have := (hs.hit rfl).2
  rw [hg] at this
  exact this

/-- A key that is there: within a page, not its first one unless that is the first page's; or a later page's first. -/
theorem place_hit (hn : ∀ p ∈ P, 1 ≤ p.2.length) (hP : P ≠ []) (hg : g < (ents P).length) :
    ∃ A q es B i, P = A ++ (q, es) :: B ∧ g = (ents A).length + i ∧ i < es.length ∧ ((A ≠ [] → 1 ≤ i) ∨ (i = 0 ∧ ∃ r, A.length = r + 1)) := by
  obtain ⟨A, q, es, B, i, rfl, h1, h2, h3⟩ := place P g hP (by omega)
  rcases Nat.lt_or_ge i es.length with hi | hi
  · exact ⟨A, q, es, B, i, rfl, h1, hi, .inl h3⟩
  · rw [ents_append, ents_cons] at hg
    cases B with
    | nil => simp [ents] at hg h1; omega
    | cons pg B =>
      obtain ⟨q2, es2⟩ := pg
      have h12 : 1 ≤ es2.length := hn (q2, es2) (by simp)
      refine ⟨A ++ [(q, es)], q2, es2, B, 0, by simp, ?_, h12, .inr ⟨rfl, A.length, by simp⟩⟩
      rw [ents_append]
      simp [ents] at h1 ⊢
      omega

theorem ents_get {A B : List Pg} {q : Nat} {es : List XE} {i g : Nat} {e : XE} (hg : g = (ents A).length + i) (hi : i < es.length) (h : (ents (A ++ (q, es) :: B))[g]? = some e) : es[i]? = some e := by
  subst hg
  rw [ents_append, ents_cons, List.getElem?_append_right (by omega), show (ents A).length + i - (ents A).length = i by omega, List.getElem?_append_left hi] at h
  exact h
end

end Go.Proofs.YtffgkocokkhahaaDoor

/- (*tree).Set of a key that is there: its entry gets another value. -/
namespace Go.Proofs.YtffgkocokkhahaaDoor
open Go.RowKit
variable {dsc : Bool} {G : Value}

theorem Rooted.put {w w' : World} {t x q : Nat} {A B : List Pg} {es es' : List XE} {c : Int} (h : Rooted G w t x (A ++ (q, es) :: B) c) (hc : Chg (fun k => k = q) w w') (hp : ∃ r, PageAt w' q es' r (hdp B (.pointer none)) (lastp (.pointer none) A)) (hl : es'.length = es.length) :
    Rooted G w' t x (A ++ (q, es') :: B) c := by
  obtain ⟨hxt, hne⟩ := h.ne
  obtain ⟨nA, nB, _⟩ := nodup_mid h.nodup
  obtain ⟨ver, ht⟩ := h.tree
  refine h.re (by simp [Blocks]) ⟨ver, ht.chg hc (fun e => (hne (q, es) (by simp)).2 e.symm)⟩ (chain_one h.chain hc (fun p hp => nA p hp) (fun p hp => nB p hp) hp) (fun p hp => ?_) hc (fun e => (hne (q, es) (by simp)).1 e.symm)
  rcases List.mem_append.1 hp with hp | hp
  · exact h.sizes p (by simp [hp])
  · rcases List.mem_cons.1 hp with rfl | hp
    · have := h.sizes (q, es) (by simp)
      simp only [hl]
      exact this
    · exact h.sizes p (by simp [hp])

theorem ents_put {A B : List Pg} {q : Nat} {es : List XE} {i g : Nat} {y : XE} (hg : g = (ents A).length + i) (hi : i < es.length) : ents (A ++ (q, es.set i y) :: B) = (ents (A ++ (q, es) :: B)).set g y := by
  subst hg
  rw [ents_append, ents_append, ents_cons, ents_cons, List.set_append_right _ _ (by omega), show (ents A).length + i - (ents A).length = i by omega, List.set_append_left _ _ hi]

theorem put_page {w w' : World} {q i : Nat} {es : List XE} {rest : List Value} {nx pv : Value} {x e : XE} (h : PageAt w q es rest nx pv) (hx : es[i]? = some x) (hw : w'.heap[q]? = (w.setCell ⟨q, 1 + i * 2 + 1, none⟩ (.slice e.B e.n e.q)).heap[q]?) : PageAt w' q (es.set i (x.put e)) rest nx pv := by
  refine ⟨?_, by rw [List.length_set]; exact h.room, h.one⟩
  rw [hw, heap_setCell_at, h.heap]
  simp only [Option.map_some, updObj_cells, List.setIfInBounds_toArray]
  rw [put_row es rest [nx, pv] i x e hx]

theorem below_put {S : Nat → Prop} {w w1 : World} (hb : Below w.heap.size w w1) {q o : Nat} (hq : S q) (v : Value) : Chg S w (w1.setCell ⟨q, o, none⟩ v) := Chg.setCell (Chg.of_below hb) (p := ⟨q, o, none⟩) (.inl hq) v

set_option maxRecDepth 100000 in
set_option maxHeartbeats 1000000 in
theorem put_lone (t b i : Nat) (es : List XE) (e x : XE) (cs : Nat → Int) (w : World) (h : Lone (cmpV dsc) w t b es es.length) (hx : es[i]? = some x) (ha : Asks dsc w (.slice e.A e.m e.p) es cs) (hp : Pos cs es.length i true) :
    Calls Tryd.prog 37 #[.pointer (some ⟨t, 0, none⟩), .slice e.A e.m e.p, .slice e.B e.n e.q] w (GrowP (cmpV dsc) t (es.set i (x.put e)) (fun k => k = t ∨ k = b) w) := by
  have HF := find_lone h ha hp
  have hne := h.ne
  have hsz := h.size
  obtain ⟨⟨ver, ht⟩, ⟨rest, hq⟩, _⟩ := h
  have ct4 : w.cell? ⟨t, 4, none⟩ = some (.iface 123 (.pointer (some ⟨b, 0, none⟩))) := cell_of_heap ht 4
  have lt := lt_of_heap ht
  have lb := hq.lt
  have hi := (List.getElem?_eq_some_iff.1 hx).1
  have hi1 : (i : Int) < 129 := by omega
  have hi2 : (0 : Int) ≤ i := by omega
  have cv : w.cell? ⟨b, 1 + i * 2 + 1, none⟩ = some (.slice x.B x.n x.q) := (hq.cell _).trans (pgL_at XE.cells 2 XE.two es rest _ i 1 x _ hx (by omega) rfl)
  have fv : w.frozen? ⟨b, 1 + i * 2 + 1, none⟩ = false := hq.free _
  have HQ := Lib.hid hq
  have HT := Lib.hid ht
  have HX := Lib.hid hx
  have HS := Lib.hid hsz
  clear hq ht hx ha hp hsz
  go_enter Tryd.func37, Tryd.ntmps37
  go_wp2_with fail
  refine wp_loop_rounds 1 ?_
  rw [rounds_succ]
  go_wp2_with (go_at_call 70; refine (HF.out _ (Below.refl _ _)).mono ?_; rintro y w1 ⟨rfl, hb1⟩; have HB1 := Lib.hid hb1; have lb1 : b < w1.heap.size := (by have := hb1.size; omega); have dv := (hb1.cell (p := ⟨b, 1 + i * 2 + 1, none⟩) lb).trans cv; have gv := (hb1.frozen (p := ⟨b, 1 + i * 2 + 1, none⟩) lb).trans fv; clear hb1)
  obtain ⟨wa, hwa⟩ : ∃ wz, wz = w1.alloc (.cells #[.int .i64 i] 3) := ⟨_, rfl⟩
  rw [← hwa]
  have ci : wa.cell? ⟨w1.heap.size, 0, none⟩ = some (.int .i64 i) := by rw [hwa]; exact cell_of_heap (heap_new w1 _) 0
  have HBA := Lib.hid (show Below w.heap.size w wa by rw [hwa]; exact HB1.out.alloc HB1.out.size _)
  replace dv : wa.cell? ⟨b, 1 + i * 2 + 1, none⟩ = some (.slice x.B x.n x.q) := (HBA.out.cell (p := ⟨b, 1 + i * 2 + 1, none⟩) lb).trans cv
  replace gv : wa.frozen? ⟨b, 1 + i * 2 + 1, none⟩ = false := (HBA.out.frozen (p := ⟨b, 1 + i * 2 + 1, none⟩) lb).trans fv
  clear hwa
  go_still_tail 7, (by kernel_rfl)
  obtain ⟨w2, hw2⟩ : ∃ wz, wz = wa.drew := ⟨_, rfl⟩
  change wpList _ _ _ _ _ wa.drew
  rw [← hw2]
  have HB2 := Lib.hid (show Below w.heap.size w w2 by rw [hw2]; exact HBA.out.drew)
  replace dv : w2.cell? ⟨b, 1 + i * 2 + 1, none⟩ = some (.slice x.B x.n x.q) := (HB2.out.cell (p := ⟨b, 1 + i * 2 + 1, none⟩) lb).trans cv
  replace gv : w2.frozen? ⟨b, 1 + i * 2 + 1, none⟩ = false := (HB2.out.frozen (p := ⟨b, 1 + i * 2 + 1, none⟩) lb).trans fv
  clear hw2 ci
  go_wp2
  go_end0
  have hP := put_page (e := e) (HQ.out.below HB2.out) HX.out rfl
  have hc := below_put (S := fun k => k = t ∨ k = b) HB2.out (q := b) (o := 1 + i * 2 + 1) (.inr rfl) (.slice e.B e.n e.q)
  have hc0 := Chg.setCell (Chg.refl (fun k => k = b) w2) (p := ⟨b, 1 + i * 2 + 1, none⟩) (.inl rfl) (.slice e.B e.n e.q)
  refine ⟨rfl, _, .lone (b := b) ⟨⟨ver, ?_⟩, ⟨_, hP⟩, by rw [List.length_set]; exact HS.out⟩, hc, fun k hk => .inl hk⟩
  rw [List.length_set]
  exact TreeW.chg (heap_below HT.out HB2.out) hc0 hne

end Go.Proofs.YtffgkocokkhahaaDoor

/- (*tree).cat and (*tree).underflow under a root: the tree that comes of it. -/
namespace Go.Proofs.YtffgkocokkhahaaDoor
open Go.RowKit
variable {G : Value}

/-- A tree under a root, whatever its pages' sizes. -/
structure PreR (G : Value) (w : World) (t x : Nat) (P : List Pg) (c : Int) : Prop where
  tree : ∃ ver, TreeW G w t c (hdp P (.pointer none)) (lastp (.pointer none) P) (.iface 126 (ptr x)) ver
  root : ∃ b0 bs xr, Blocks P = b0 :: bs ∧ RootAt w x b0 bs xr
  chain : Chain w (.pointer none) P (.pointer none)
  nodup : (Blocks P).Nodup

theorem PreR.ne {w : World} {t x : Nat} {P : List Pg} {c : Int} (h : PreR G w t x P c) : ¬ x = t ∧ ∀ p ∈ P, ¬ p.1 = x ∧ ¬ p.1 = t := by
  obtain ⟨_, ht⟩ := h.tree
  obtain ⟨_, _, _, _, hx⟩ := h.root
  refine ⟨tag_ne hx.heap ht (by decide), fun p hp => ?_⟩
  obtain ⟨_, _, _, hq⟩ := chain_page h.chain p hp
  exact ⟨tag_ne hq.heap hx.heap (by decide), tag_ne hq.heap ht (by decide)⟩

theorem PreR.rooted {w : World} {t x : Nat} {P : List Pg} {c : Int} (h : PreR G w t x P c) (hs : ∀ p ∈ P, 64 ≤ p.2.length ∧ p.2.length ≤ 128) (h2 : 2 ≤ P.length) : Rooted G w t x P c := ⟨h.tree, h.root, h.chain, hs, h.nodup, h2⟩
theorem Rooted.pre {w : World} {t x : Nat} {P : List Pg} {c : Int} (h : Rooted G w t x P c) : PreR G w t x P c := ⟨h.tree, h.root, h.chain, h.nodup⟩

/-- Only the tree's own words have changed. -/
theorem PreR.step {w w' : World} {t x : Nat} {P : List Pg} {c : Int} {ver : Int} (h : PreR G w t x P c) (hc : Chg (fun b => b = t) w w') (ht : TreeW G w' t c (hdp P (.pointer none)) (lastp (.pointer none) P) (.iface 126 (ptr x)) ver) : PreR G w' t x P c := by
  obtain ⟨hxt, hne⟩ := h.ne
  obtain ⟨b0, bs, xr, h1, h2⟩ := h.root
  exact ⟨⟨ver, ht⟩, ⟨b0, bs, xr, h1, h2.chg hc hxt⟩, chain_chg h.chain hc (fun p hp => (hne p hp).2), h.nodup⟩

/-- The same blocks, other entries. -/
theorem PreR.re {w w' : World} {t x : Nat} {P P' : List Pg} {c c' : Int} {S : Nat → Prop} (h : PreR G w t x P c) (hB : Blocks P' = Blocks P)
    (ht : ∃ ver, TreeW G w' t c' (hdp P (.pointer none)) (lastp (.pointer none) P) (.iface 126 (ptr x)) ver) (hch : Chain w' (.pointer none) P' (.pointer none)) (hc : Chg S w w') (hn : ¬ S x) : PreR G w' t x P' c' := by
  obtain ⟨b0, bs, xr, h1, h2⟩ := h.root
  exact ⟨by rw [hdp_blocks hB, lastp_blocks hB]; exact ht, ⟨b0, bs, xr, by rw [hB]; exact h1, h2.chg hc hn⟩, hch, by rw [hB]; exact h.nodup⟩

/-- What cat and underflow leave. -/
def JoinP (G : Value) (t : Nat) (L : List XE) (S : Nat → Prop) (w w' : World) : Prop := ∃ S', TreeAt G w' t L S' ∧ Chg S w w' ∧ ∀ k, S' k → S k

theorem join_many {w w' : World} {t x : Nat} {P : List Pg} {L : List XE} {S : Nat → Prop} (h : Rooted G w' t x P (ents P).length) (hL : ents P = L) (hc : Chg S w w') (hS : ∀ k, ((k = t ∨ k = x) ∨ k ∈ Blocks P) → S k) : JoinP G t L S w w' := by
  subst hL
  exact ⟨_, .many h, hc, hS⟩

theorem nodup_drop {A B : List Pg} {a b : Nat} {ea eb ec : List XE} (h : (Blocks (A ++ (a, ea) :: (b, eb) :: B)).Nodup) : (Blocks (A ++ (a, ec) :: B)).Nodup := by
  rw [blocks_append, blocks_cons, blocks_cons] at h
  rw [blocks_append, blocks_cons]
  obtain ⟨n1, n2, n3⟩ := List.nodup_append.1 h
  obtain ⟨n4, n5⟩ := List.nodup_cons.1 n2
  obtain ⟨_, n7⟩ := List.nodup_cons.1 n5
  refine List.nodup_append.2 ⟨n1, List.nodup_cons.2 ⟨fun hm => n4 (List.mem_cons_of_mem _ hm), n7⟩, fun y hy z hz => ?_⟩
  rcases List.mem_cons.1 hz with rfl | hz
  · exact n3 y hy _ (by simp)
  · exact n3 y hy z (by simp [hz])

/-- Neither of two neighbours is another page. -/
theorem nodup_two {A B : List Pg} {a b : Nat} {ea eb : List XE} (h : (Blocks (A ++ (a, ea) :: (b, eb) :: B)).Nodup) : ¬ a = b ∧ (∀ p ∈ A, ¬ p.1 = a ∧ ¬ p.1 = b) ∧ ∀ p ∈ B, ¬ p.1 = a ∧ ¬ p.1 = b := by
  obtain ⟨n1, n2, _⟩ := nodup_mid h
  have h2 := h
  rw [show A ++ (a, ea) :: (b, eb) :: B = (A ++ [(a, ea)]) ++ (b, eb) :: B by simp] at h2
  obtain ⟨m1, m2, _⟩ := nodup_mid h2
  exact ⟨m1 (a, ea) (by simp), fun p hp => ⟨n1 p hp, m1 p (by simp [hp])⟩, fun p hp => ⟨n2 p (by simp [hp]), m2 p hp⟩⟩

theorem join_any {t x a b : Nat} {A B : List Pg} {ea eb : List XE} {w : World} (h : PreR G w t x (A ++ (a, ea) :: (b, eb) :: B) (ents (A ++ (a, ea) :: (b, eb) :: B)).length) (hl : ea.length + eb.length ≤ 127) (hl1 : 64 ≤ ea.length + eb.length)
    (hsA : ∀ p ∈ A, 64 ≤ p.2.length ∧ p.2.length ≤ 128) (hsB : ∀ p ∈ B, 64 ≤ p.2.length ∧ p.2.length ≤ 128) (hlen : (A ++ (a, ea) :: (b, eb) :: B).length ≤ 200) :
    Calls Tryd.prog 110 #[.pointer (some ⟨t, 0, none⟩), .pointer (some ⟨x, 0, none⟩), .pointer (some ⟨a, 0, none⟩), .pointer (some ⟨b, 0, none⟩), .int .i64 A.length] w
      (fun y w' => y = .returned (.tuple #[]) ∧ JoinP G t (ents (A ++ (a, ea) :: (b, eb) :: B)) (fun k => (k = t ∨ k = x) ∨ k ∈ Blocks (A ++ (a, ea) :: (b, eb) :: B)) w w') := by
  obtain ⟨hxt, hne⟩ := h.ne
  obtain ⟨hab, nA, nB⟩ := nodup_two h.nodup
  obtain ⟨ver, ht⟩ := h.tree
  obtain ⟨b0, bs, xr, hbl, hx⟩ := h.root
  have hch := h.chain
  rw [chain_append] at hch
  obtain ⟨chA, ⟨sa, hpa⟩, ⟨sb, hpb⟩, chB⟩ := hch
  have hE : ents (A ++ (a, ea ++ eb) :: B) = ents (A ++ (a, ea) :: (b, eb) :: B) := by simp [ents]
  obtain ⟨c0, X, hX⟩ : ∃ c0 X, Blocks A ++ [a] = c0 :: X := by
    cases hA : Blocks A ++ [a] with
    | nil => simp at hA
    | cons c0 X => exact ⟨c0, X, rfl⟩
  have hXl : X.length = A.length := by
    have := congrArg List.length hX
    simp [Blocks] at this
    omega
  have hbl2 : b0 :: bs = c0 :: (X ++ b :: Blocks B) := by
    rw [← hbl, blocks_append, blocks_cons, blocks_cons, ← List.cons_append, ← hX]
    simp
  injection hbl2 with e1 e2
  subst e1
  subst e2
  have hXa : (b0 :: X)[X.length]? = some a := by
    rw [← hX, List.getElem?_append_right (by simp [Blocks]; omega), show X.length - (Blocks A).length = 0 by simp [Blocks]; omega]
    rfl
  have hdh : ∀ e', hdp (A ++ (a, e') :: B) (.pointer none) = hdp (A ++ (a, ea) :: (b, eb) :: B) (.pointer none) := fun e' => by cases A <;> rfl
  have pA : ∀ p ∈ A, ¬ p.1 = x ∧ ¬ p.1 = t := fun p hp => hne p (by simp [hp])
  have pB : ∀ p ∈ B, ¬ p.1 = x ∧ ¬ p.1 = t := fun p hp => hne p (by simp [hp])
  simp only [List.length_append, List.length_cons] at hlen
  cases B with
  | nil =>
    have hpb' : PageAt w b eb sb (.pointer none) (.pointer (some ⟨a, 0, none⟩)) := hpb
    cases A with
    | nil =>
      obtain rfl : X = [] := by simpa using hXl
      obtain rfl : b0 = a := by simpa using hXa
      refine (cat_one t x b0 b b0 ea eb sa sb xr _ _ _ _ ver w hpa hpb' ht hx hab hl).mono ?_
      rintro y w' ⟨rfl, ⟨s, hp⟩, ⟨v, ht'⟩, hc⟩
      have e3 : ents ([] ++ (b0, ea) :: [(b, eb)]) = ea ++ eb := by simp [ents]
      rw [e3] at ht' ⊢
      refine ⟨rfl, _, .lone (b := b0) ⟨⟨v, ht'⟩, ⟨s, hp⟩, by rw [List.length_append]; omega⟩, hc.mono (fun k _ hk => ?_), fun k hk => ?_⟩
      · rcases hk with hk | hk | hk
        · exact .inl (.inl hk)
        · exact .inr (by rw [hk]; simp [Blocks])
        · exact .inr (by rw [hk]; simp [Blocks])
      · rcases hk with hk | hk
        · exact .inl (.inl hk)
        · exact .inr (by rw [hk]; simp [Blocks])
    | cons p0 A0 =>
      have hXl2 : 1 ≤ X.length := by rw [hXl]; simp
      refine (by rw [← hXl]; exact (cat_last t x a b b0 X ea eb sa sb xr _ _ _ _ ver w hpa hpb' ht hx hab hl hXl2 (by simp at hlen hXl; omega) hXa) : Calls _ _ _ _ _).mono ?_
      rintro y w' ⟨rfl, hp, ht', hx', hc⟩
      refine ⟨rfl, join_many (P := (p0 :: A0) ++ [(a, ea ++ eb)]) (x := x) ⟨?_, ?_, ?_, ?_, nodup_drop h.nodup, by simp⟩ (by rw [← hE]) (hc.mono (fun k _ hk => ?_)) (fun k hk => ?_)⟩
      · rw [hdh, lastp_append, show (ents ((p0 :: A0) ++ [(a, ea ++ eb)])) = _ from hE]
        exact ht'
      · obtain ⟨s, hx'⟩ := hx'
        exact ⟨b0, X, s, by rw [blocks_append, ← hX]; rfl, hx'⟩
      · rw [chain_append]
        refine ⟨chain_chg chA hc (fun p hp => ?_), hp, trivial⟩
        rintro ((g | g | g) | g)
        · exact (pA p hp).2 g
        · exact (nA p hp).1 g
        · exact (nA p hp).2 g
        · exact (pA p hp).1 g
      · intro p hp
        rcases List.mem_append.1 hp with hp | hp
        · exact hsA p hp
        · obtain rfl := List.mem_singleton.1 hp
          exact ⟨by simp only [List.length_append]; omega, by simp only [List.length_append]; omega⟩
      · rcases hk with (hk | hk | hk) | hk
        · exact .inl (.inl hk)
        · exact .inr (by rw [hk]; simp [Blocks])
        · exact .inr (by rw [hk]; simp [Blocks])
        · exact .inl (.inr hk)
      · rcases hk with hk | hk
        · exact .inl hk
        · refine .inr ?_
          rw [blocks_append, blocks_cons] at hk ⊢
          rcases List.mem_append.1 hk with hk | hk
          · exact List.mem_append.2 (.inl hk)
          · simp [Blocks] at hk
            rw [hk]
            simp [Blocks]
  | cons n B =>
    obtain ⟨nb, ns⟩ := n
    obtain ⟨⟨sn, hpn⟩, chB'⟩ := chB
    have hnn := nB (nb, ns) (by simp)
    have hpb' : PageAt w b eb sb (.pointer (some ⟨nb, 0, none⟩)) (.pointer (some ⟨a, 0, none⟩)) := hpb
    have hnB : ∀ p ∈ B, ¬ p.1 = nb := by
      have h2 := h.nodup
      rw [show A ++ (a, ea) :: (b, eb) :: (nb, ns) :: B = (A ++ [(a, ea), (b, eb)]) ++ (nb, ns) :: B by simp] at h2
      exact (nodup_mid h2).2.1
    have hnA : ∀ p ∈ A, ¬ p.1 = nb := by
      have h2 := h.nodup
      rw [show A ++ (a, ea) :: (b, eb) :: (nb, ns) :: B = (A ++ [(a, ea), (b, eb)]) ++ (nb, ns) :: B by simp] at h2
      exact fun p hp => (nodup_mid h2).1 p (by simp [hp])
    refine (by rw [← hXl]; exact (cat_mid t x a b b0 X nb (Blocks B) ns sn _ ea eb sa sb xr _ _ _ _ ver w hpa hpb' ht hx hab hl (by simp [Blocks] at hlen ⊢; omega) hXa hpn hnn.1 hnn.2) : Calls _ _ _ _ _).mono ?_
    rintro y w' ⟨rfl, hp, ht', hx', hn', hc⟩
    refine ⟨rfl, join_many (P := A ++ (a, ea ++ eb) :: (nb, ns) :: B) (x := x) ⟨?_, ?_, ?_, ?_, nodup_drop h.nodup, by simp; omega⟩ hE (hc.mono (fun k _ hk => ?_)) (fun k hk => ?_)⟩
    · rw [hdh, lastp_append, show (ents (A ++ (a, ea ++ eb) :: (nb, ns) :: B)) = _ from hE]
      rw [lastp_append] at ht'
      exact ht'
    · obtain ⟨s, hx'⟩ := hx'
      refine ⟨b0, _, s, ?_, hx'⟩
      rw [blocks_append, blocks_cons, blocks_cons, ← List.cons_append, ← hX]
      simp
    · rw [chain_append]
      refine ⟨chain_chg chA hc (fun p hp => ?_), hp, ⟨sn, hn'⟩, chain_chg chB' hc (fun p hp => ?_)⟩
      · rintro (((g | g | g) | g) | g)
        · exact (pA p hp).2 g
        · exact (nA p hp).1 g
        · exact (nA p hp).2 g
        · exact (pA p hp).1 g
        · exact hnA p hp g
      · rintro (((g | g | g) | g) | g)
        · exact (pB p (by simp [hp])).2 g
        · exact (nB p (by simp [hp])).1 g
        · exact (nB p (by simp [hp])).2 g
        · exact (pB p (by simp [hp])).1 g
        · exact hnB p hp g
    · intro p hp
      rcases List.mem_append.1 hp with hp | hp
      · exact hsA p hp
      · rcases List.mem_cons.1 hp with rfl | hp
        · exact ⟨by simp only [List.length_append]; omega, by simp only [List.length_append]; omega⟩
        · exact hsB p hp
    · rcases hk with ((hk | hk | hk) | hk) | hk
      · exact .inl (.inl hk)
      · exact .inr (by rw [hk]; simp [Blocks])
      · exact .inr (by rw [hk]; simp [Blocks])
      · exact .inl (.inr hk)
      · exact .inr (by rw [hk]; simp [Blocks])
    · rcases hk with hk | hk
      · exact .inl hk
      · refine .inr ?_
        rw [blocks_append, blocks_cons] at hk ⊢
        rcases List.mem_append.1 hk with hk | hk
        · exact List.mem_append.2 (.inl hk)
        · rcases List.mem_cons.1 hk with rfl | hk
          · simp
          · exact List.mem_append.2 (.inr (List.mem_cons_of_mem _ (List.mem_cons_of_mem _ hk)))

end Go.Proofs.YtffgkocokkhahaaDoor

/- (*tree).underflow under a root, whatever the neighbours. -/
namespace Go.Proofs.YtffgkocokkhahaaDoor
open Go.RowKit
variable {G : Value}

/-- Two neighbours have other entries, all in all the same ones. -/
theorem join_two {t x a b : Nat} {A B : List Pg} {ea eb ea' eb' : List XE} {w w' : World} (h : PreR G w t x (A ++ (a, ea) :: (b, eb) :: B) (ents (A ++ (a, ea) :: (b, eb) :: B)).length)
    (hE : ea' ++ eb' = ea ++ eb) (h1 : ∃ s, PageAt w' a ea' s (ptr b) (lastp (.pointer none) A)) (h2 : ∃ s, PageAt w' b eb' s (hdp B (.pointer none)) (ptr a))
    (ht : ∃ v, TreeW G w' t (ents (A ++ (a, ea) :: (b, eb) :: B)).length (hdp (A ++ (a, ea) :: (b, eb) :: B) (.pointer none)) (lastp (.pointer none) (A ++ (a, ea) :: (b, eb) :: B)) (.iface 126 (ptr x)) v)
    (hc : Chg (fun k => k = t ∨ k = a ∨ k = b) w w') (hsA : ∀ p ∈ A, 64 ≤ p.2.length ∧ p.2.length ≤ 128) (hsB : ∀ p ∈ B, 64 ≤ p.2.length ∧ p.2.length ≤ 128) (hsa : 64 ≤ ea'.length ∧ ea'.length ≤ 128) (hsb : 64 ≤ eb'.length ∧ eb'.length ≤ 128) :
    JoinP G t (ents (A ++ (a, ea) :: (b, eb) :: B)) (fun k => (k = t ∨ k = x) ∨ k ∈ Blocks (A ++ (a, ea) :: (b, eb) :: B)) w w' := by
  obtain ⟨hxt, hne⟩ := h.ne
  obtain ⟨hab, nA, nB⟩ := nodup_two h.nodup
  have hB : Blocks (A ++ (a, ea') :: (b, eb') :: B) = Blocks (A ++ (a, ea) :: (b, eb) :: B) := by simp [Blocks]
  have hEE : ents (A ++ (a, ea') :: (b, eb') :: B) = ents (A ++ (a, ea) :: (b, eb) :: B) := by
    have : ∀ (p q : List XE), ents (A ++ (a, p) :: (b, q) :: B) = ents A ++ ((p ++ q) ++ ents B) := fun p q => by simp [ents]
    rw [this, this, hE]
  have hch := chain_two h.chain hc (fun p hp => by
    rintro (g | g | g)
    · exact (hne p (by simp [hp])).2 g
    · exact (nA p hp).1 g
    · exact (nA p hp).2 g) (fun p hp => by
    rintro (g | g | g)
    · exact (hne p (by simp [hp])).2 g
    · exact (nB p hp).1 g
    · exact (nB p hp).2 g) h1 h2
  have hR := h.re hB (by rw [← hEE] at ht; exact ht) hch hc (by
    rintro (g | g | g)
    · exact hxt g
    · exact (hne (a, ea) (by simp)).1 g.symm
    · exact (hne (b, eb) (by simp)).1 g.symm)
  refine join_many (hR.rooted (fun p hp => ?_) (by simp; omega)) hEE (hc.mono (fun k _ hk => ?_)) (fun k hk => by rw [hB] at hk; exact hk)
  · rcases List.mem_append.1 hp with hp | hp
    · exact hsA p hp
    · rcases List.mem_cons.1 hp with rfl | hp
      · exact hsa
      · rcases List.mem_cons.1 hp with rfl | hp
        · exact hsb
        · exact hsB p hp
  · rcases hk with hk | hk | hk
    · exact .inl (.inl hk)
    · exact .inr (by rw [hk]; simp [Blocks])
    · exact .inr (by rw [hk]; simp [Blocks])

/-- What cat makes of two neighbours, as underflow calls it. -/
theorem join_cat {t x a b : Nat} {A B : List Pg} {ea eb : List XE} {w : World} (h : PreR G w t x (A ++ (a, ea) :: (b, eb) :: B) (ents (A ++ (a, ea) :: (b, eb) :: B)).length) (hl : ea.length + eb.length ≤ 127) (hl1 : 64 ≤ ea.length + eb.length)
    (hsA : ∀ p ∈ A, 64 ≤ p.2.length ∧ p.2.length ≤ 128) (hsB : ∀ p ∈ B, 64 ≤ p.2.length ∧ p.2.length ≤ 128) (hlen : (A ++ (a, ea) :: (b, eb) :: B).length ≤ 200) :
    Hid (∀ w1 v, Chg (fun k => k = t) w w1 → TreeW G w1 t (ents (A ++ (a, ea) :: (b, eb) :: B)).length (hdp (A ++ (a, ea) :: (b, eb) :: B) (.pointer none)) (lastp (.pointer none) (A ++ (a, ea) :: (b, eb) :: B)) (.iface 126 (ptr x)) v →
      Calls Tryd.prog 110 #[.pointer (some ⟨t, 0, none⟩), .pointer (some ⟨x, 0, none⟩), .pointer (some ⟨a, 0, none⟩), .pointer (some ⟨b, 0, none⟩), .int .i64 A.length] w1
        (fun y w' => y = .returned (.tuple #[]) ∧ JoinP G t (ents (A ++ (a, ea) :: (b, eb) :: B)) (fun k => (k = t ∨ k = x) ∨ k ∈ Blocks (A ++ (a, ea) :: (b, eb) :: B)) w w')) := by
  refine Lib.hid fun w1 v hc ht => ?_
  refine (join_any (h.step hc ht) hl hl1 hsA hsB hlen).mono ?_
  rintro y w' ⟨rfl, S', h1, h2, h3⟩
  exact ⟨rfl, S', h1, (hc.mono (fun k _ hk => .inl (.inl hk))).trans h2, h3⟩

theorem under_any {t x q : Nat} {A B : List Pg} {es : List XE} {w : World} (h : PreR G w t x (A ++ (q, es) :: B) (ents (A ++ (q, es) :: B)).length) (hl : es.length = 63)
    (hsA : ∀ p ∈ A, 64 ≤ p.2.length ∧ p.2.length ≤ 128) (hsB : ∀ p ∈ B, 64 ≤ p.2.length ∧ p.2.length ≤ 128) (h2 : 2 ≤ (A ++ (q, es) :: B).length) (hlen : (A ++ (q, es) :: B).length ≤ 200) :
    Calls Tryd.prog 77 #[.pointer (some ⟨t, 0, none⟩), .pointer (some ⟨x, 0, none⟩), .pointer (some ⟨q, 0, none⟩), .int .i64 A.length] w
      (fun y w' => y = .returned (.tuple #[]) ∧ JoinP G t (ents (A ++ (q, es) :: B)) (fun k => (k = t ∨ k = x) ∨ k ∈ Blocks (A ++ (q, es) :: B)) w w') := by
  obtain ⟨ver, ht⟩ := h.tree
  obtain ⟨b0, bs, xr, hbl, hx⟩ := h.root
  have hch := h.chain
  rw [chain_append] at hch
  obtain ⟨chA, ⟨sq, hq⟩, chB⟩ := hch
  have hlb : bs.length = A.length + B.length := by
    have := congrArg List.length hbl
    simp [Blocks] at this
    omega
  have hk : A.length ≤ bs.length := by omega
  simp only [List.length_append, List.length_cons] at hlen h2
  have hbs : bs.length ≤ 250 := by omega
  have hbl2 : b0 :: bs = Blocks A ++ q :: Blocks B := by rw [← hbl, blocks_append, blocks_cons]
  have hAl : (Blocks A).length = A.length := by simp [Blocks]
  have hsr : sibR (b0 :: bs) A.length = (Blocks B)[0]? := by rw [hbl2, ← hAl]; exact sibR_at _ _ _
  rcases List.eq_nil_or_concat A with hA | ⟨A', ⟨lb, ls⟩, hA⟩
  · subst hA
    have hsl : sibL (b0 :: bs) ([] : List Pg).length = none := rfl
    cases B with
    | nil => simp at h2
    | cons pb B =>
      obtain ⟨rb, rs⟩ := pb
      obtain ⟨⟨sr, hrp⟩, _⟩ := chB
      have hsr' : sibR (b0 :: bs) ([] : List Pg).length = some rb := by rw [hsr]; rfl
      obtain ⟨hqr, _, _⟩ := nodup_two h.nodup
      have hrs := hsB (rb, rs) (by simp)
      rcases Nat.lt_or_ge rs.length 65 with hr | hr
      · have hcat := join_cat h (by rw [hl]; simp at hrs; omega) (by rw [hl]; simp at hrs; omega) (fun p hp => by cases hp) (fun p hp => hsB p (by simp [hp])) (by simp at hlen ⊢; omega)
        exact un_none_low t q x b0 _ bs es sq xr _ _ _ _ _ _ ver w rb rs sr _ _ _ hq ht hx hk hbs hl hsl hsr' hrp (by simp at hrs; omega) hcat
      · refine (un_none_room t q x b0 _ bs es sq xr _ _ _ _ _ _ ver w rb rs sr _ _ hq ht hx hk hbs hl hsl hsr' hrp (fun e => hqr e.symm) hr hrs.2).mono ?_
        rintro y w' ⟨rfl, g1, g2, g3, hc⟩
        have hrl : rs.length ≤ 128 := hrs.2
        exact ⟨rfl, join_two h (by rw [List.append_assoc, List.take_append_drop]) g1 g2 g3 hc (fun p hp => by cases hp) (fun p hp => hsB p (by simp [hp])) (by simp; omega) (by simp; omega)⟩
  · have hA' : A = A' ++ [(lb, ls)] := by simpa using hA
    subst hA'
    have hsl : sibL (b0 :: bs) (A' ++ [(lb, ls)]).length = some lb := by
      rw [hbl2, blocks_append, show (A' ++ [(lb, ls)]).length = (Blocks A').length + 1 by simp [Blocks]]
      exact sibL_last _ _ _ _
    rw [chain_append] at chA
    obtain ⟨chA', ⟨sl, hlp⟩, _⟩ := chA
    have hls := hsA (lb, ls) (by simp)
    have hsA' : ∀ p ∈ A', 64 ≤ p.2.length ∧ p.2.length ≤ 128 := fun p hp => hsA p (by simp [hp])
    have ePP : A' ++ [(lb, ls)] ++ (q, es) :: B = A' ++ (lb, ls) :: (q, es) :: B := by simp
    have hlast : lastp (.pointer none) (A' ++ [(lb, ls)]) = ptr lb := by rw [lastp_append]; rfl
    have h' := h
    rw [ePP] at h' ht ⊢
    obtain ⟨hlq, _, _⟩ := nodup_two h'.nodup
    have hls2 : 64 ≤ ls.length ∧ ls.length ≤ 128 := hls
    have hA1 : (A' ++ [(lb, ls)]).length = A'.length + 1 := by simp
    rcases Nat.lt_or_ge ls.length 65 with hl65 | hl65
    · have hl64 : ls.length = 64 := by omega
      have hcat := join_cat h' (by rw [hl]; omega) (by rw [hl]; omega) hsA' hsB (by simp at hlen ⊢; omega)
      cases B with
      | nil =>
        have hsr' : sibR (b0 :: bs) (A' ++ [(lb, ls)]).length = none := by rw [hsr]; rfl
        exact un_low_none t q x b0 _ bs es sq xr _ _ _ _ _ _ ver w lb ls sl _ _ _ _ hq ht hx hk hbs hl hsl hlp hl64 hsr' hA1 hcat
      | cons pb B =>
        obtain ⟨rb, rs⟩ := pb
        obtain ⟨⟨sr, hrp⟩, _⟩ := chB
        have hsr' : sibR (b0 :: bs) (A' ++ [(lb, ls)]).length = some rb := by rw [hsr]; rfl
        obtain ⟨hqr, _, _⟩ := nodup_two h.nodup
        have hrs : 64 ≤ rs.length ∧ rs.length ≤ 128 := hsB (rb, rs) (by simp)
        rcases Nat.lt_or_ge rs.length 65 with hr | hr
        · exact un_low_low t q x b0 _ bs es sq xr _ _ _ _ _ _ ver w lb ls sl _ _ rb rs sr _ _ _ _ hq ht hx hk hbs hl hsl hlp hl64 hsr' hrp (by omega) hA1 hcat
        · refine (un_low_room t q x b0 _ bs es sq xr _ _ _ _ _ _ ver w lb ls sl _ _ rb rs sr _ _ hq ht hx hk hbs hl hsl hlp hl64 hsr' hrp (fun e => hqr e.symm) hr hrs.2).mono ?_
          rintro y w' ⟨rfl, g1, g2, g3, hc⟩
          rw [← ePP] at g3 ⊢
          exact ⟨rfl, join_two h (by rw [List.append_assoc, List.take_append_drop]) g1 g2 g3 hc hsA (fun p hp => hsB p (by simp [hp])) (by simp; omega) (by simp; omega)⟩
    · obtain ⟨RV, hRV⟩ : ∃ RV, RV = sibR (b0 :: bs) (A' ++ [(lb, ls)]).length := ⟨_, rfl⟩
      refine (un_room_any t q x b0 _ bs es sq xr _ _ _ _ _ _ ver w lb ls sl _ _ hq ht hx hk hbs hl hsl hlp hlq hl65 hls2.2).mono ?_
      rintro y w' ⟨rfl, g1, g2, g3, hc⟩
      rw [hlast] at g2
      exact ⟨rfl, join_two h' (by rw [← List.append_assoc, List.take_append_drop]) g1 g2 g3 hc hsA' hsB (by simp; omega) (by simp; omega)⟩

end Go.Proofs.YtffgkocokkhahaaDoor
