/-
  (*memIndex).Create of an index that is not unique. || Get of the index's tree: of an empty tree, of one page. || Get of the index's tree: below a root. || Get of the index's tree, whatever the tree. || (*memIndex).Create of an index that is unique: of NULL; of values that are new; of values that are there. PRINTED BY wip/tpl/gen_xua.py. || (*memIndex).Create of an index that is unique: values that are new; values that are there.
-/
import Derived.Test.YtffgkocokkhahaaDoorIxu17
import Derived.Deep.RegionLaw
import Derived.Test.YtffgkocokkhahaaDoorIxu15

/- (*memIndex).Create of an index that is not unique. -/
namespace Go.Proofs.YtffgkocokkhahaaDoor
open Go.RowKit

theorem own_chg {S : Nat → Prop} {w w' : World} {base : Nat} {e : TypeId} {size : Nat} {v : Value} {n : Nat} {xs : List Value} (h : w.ownsRow base e size v n xs) (hc : Chg S w w') (hn : ∀ b, v.ownBlock = some b → ¬ S b) : w'.ownsRow base e size v n xs := by
  obtain ⟨h1, h2⟩ := h
  refine ⟨h1, ?_⟩
  rcases h2 with h2 | ⟨g, cap, cur, e1, e2, e3, e4⟩
  · exact .inl h2
  · exact .inr ⟨g, cap, cur, e1, e2, heap_chg e3 hc (hn g (by rw [e1]; rfl)), e4⟩
theorem own_lt {w : World} {base : Nat} {e : TypeId} {size : Nat} {v : Value} {n : Nat} {xs : List Value} (h : w.ownsRow base e size v n xs) {b : Nat} (hb : v.ownBlock = some b) : b < w.heap.size := by
  rcases h.2 with ⟨h2, _⟩ | ⟨g, cap, cur, e1, e2, e3, e4⟩
  · rw [h2] at hb; cases hb
  · rw [e1] at hb
    have : g = b := by simpa [Value.ownBlock] using hb
    subst this
    exact lt_of_heap e3
theorem StoreAt.chg {S : Nat → Prop} {w w' : World} {m n r : Nat} {L : Value} (h : StoreAt w m n r L) (hc : Chg S w w') (hm : ¬ S m) (hr : ¬ S r) (hn : ∀ b, L.ownBlock = some b → ¬ S b) : StoreAt w' m n r L := by
  obtain ⟨⟨cs, h1, h2⟩, ⟨p, s, h3⟩, ⟨xs, h4⟩⟩ := h
  exact ⟨⟨cs, heap_chg h1 hc hm, h2⟩, ⟨p, s, heap_chg h3 hc hr⟩, ⟨xs, own_chg h4 hc hn⟩⟩
theorem StoreAt.lt {w : World} {m n r : Nat} {L : Value} (h : StoreAt w m n r L) : m < w.heap.size ∧ r < w.heap.size ∧ ∀ b, L.ownBlock = some b → b < w.heap.size := by
  obtain ⟨⟨cs, h1, h2⟩, ⟨p, s, h3⟩, ⟨xs, h4⟩⟩ := h
  exact ⟨lt_of_heap h1, lt_of_heap h3, fun b hb => own_lt h4 hb⟩
theorem StoreAt.ne {w : World} {m n r : Nat} {L : Value} (h : StoreAt w m n r L) {b : Nat} {cs : Array Value} {T : TypeId} {fr : Nat × Nat} (hb : w.heap[b]? = some (.cells cs T fr)) (h1 : T ≠ 176) (h2 : T ≠ 225) : ¬ b = r ∧ ¬ L.ownBlock = some b := by
  obtain ⟨_, ⟨p, s, h3⟩, ⟨xs, h4⟩⟩ := h
  exact ⟨fun e => by subst e; rw [hb] at h3; injection h3 with h3; injection h3 with _ ht; exact h1 ht, own_ne h4 hb (fun e => h2 e.symm)⟩

theorem TreeAt.chg {T S : Nat → Prop} {w w' : World} {t : Nat} {es : List XE} (h : TreeAt w t es S) (hc : Chg T w w') (hn : ∀ k, S k → ¬ T k) : TreeAt w' t es S := by
  cases h with
  | none h =>
    obtain ⟨ver, h⟩ := h
    exact .none ⟨ver, h.chg hc (hn t rfl)⟩
  | lone h =>
    obtain ⟨⟨ver, h1⟩, ⟨rest, h2⟩, h3⟩ := h
    exact .lone ⟨⟨ver, h1.chg hc (hn t (.inl rfl))⟩, ⟨rest, h2.chg hc (hn _ (.inr rfl))⟩, h3⟩
  | many h =>
    obtain ⟨⟨ver, h1⟩, ⟨b0, bs, xr, h2, h3⟩, h4, h5, h6, h7⟩ := h
    exact .many ⟨⟨ver, h1.chg hc (hn t (.inl (.inl rfl)))⟩, ⟨b0, bs, xr, h2, h3.chg hc (hn _ (.inl (.inr rfl)))⟩, chain_chg h4 hc (fun p hp => hn _ (.inr (mem_blocks hp))), h5, h6, h7⟩
theorem TreeAt.lt {S : Nat → Prop} {w : World} {t : Nat} {es : List XE} (h : TreeAt w t es S) : ∀ k, S k → k < w.heap.size := by
  cases h with
  | none h =>
    obtain ⟨ver, h⟩ := h
    rintro k rfl
    exact lt_of_heap h
  | lone h =>
    obtain ⟨⟨ver, h1⟩, ⟨rest, h2⟩, h3⟩ := h
    rintro k (rfl | rfl)
    · exact lt_of_heap h1
    · exact h2.lt
  | many h =>
    obtain ⟨⟨ver, h1⟩, ⟨b0, bs, xr, h2, h3⟩, h4, h5, h6, h7⟩ := h
    rintro k ((rfl | rfl) | hk)
    · exact lt_of_heap h1
    · exact lt_of_heap h3.heap
    · obtain ⟨p, hp, rfl⟩ := List.mem_map.1 hk
      exact chain_lt h4 p hp

/-- An index whose tree has the entries. -/
structure IdxAt (w : World) (x m t n r : Nat) (L : Value) (uni : Bool) (S : Nat → Prop) (es : List XE) : Prop where
  idx : IdxW w x m t uni
  tree : TreeAt w t es S
  store : StoreAt w m n r L
  apart : ∀ k, S k → k ≠ x ∧ k ≠ m ∧ k ≠ r ∧ L.ownBlock ≠ some k

def Mut (S : Nat → Prop) (r : Nat) (L : Value) : Nat → Prop := fun k => S k ∨ k = r ∨ L.ownBlock = some k

def CreateP (x m t n r : Nat) (L : Value) (uni : Bool) (S : Nat → Prop) (es : List XE) (w : World) (y : Ending) (w' : World) : Prop :=
  y = .returned .nilIface ∧ ∃ S' L', IdxAt w' x m t n r L' uni S' es ∧ Chg (Mut S r L) w w' ∧ ∀ k, Mut S' r L' k → Mut S r L k ∨ w.heap.size ≤ k

set_option maxRecDepth 100000 in
set_option maxHeartbeats 3200000 in
theorem create_any (x m t n r : Nat) (L : Value) (S : Nat → Prop) (es : List XE) (e : XE) (he : e.n = 0) (g : Nat) (cs s : Nat → Int) (w : World) (h : IdxAt w x m t n r L false S es) (hn : n ≤ 100000) (hlen : es.length ≤ 12800) (h0 : 0 ≤ e.h) (h1 : e.h ≤ 9223372036854775807)
    (ha : ∀ w', Chg (Mut S r L) w w' → Asks w' (.slice e.A e.m e.p) es cs) (hsd : ∀ (j : Nat) (e' : XE), es[j]? = some e' → s j = keyC (cs j) e.h e'.h) (hp : Pos s es.length g false) :
    Calls Tryd.prog 54 #[.pointer (some ⟨x, 0, none⟩), .slice e.A e.m e.p, .int .i64 e.h] w (CreateP x m t (n + 1) r L false S (es.take g ++ e :: es.drop g) w) := by
  obtain ⟨hx, ht, hst, hap⟩ := h
  have c0 : w.cell? ⟨x, 0, none⟩ = some (.pointer (some ⟨m, 0, none⟩)) := cell_of_heap hx 0
  have c1 : w.cell? ⟨x, 1, none⟩ = some (.pointer (some ⟨t, 0, none⟩)) := cell_of_heap hx 1
  have c2 : w.cell? ⟨x, 2, none⟩ = some (.bool false) := cell_of_heap hx 2
  have lx := lt_of_heap hx
  have HX := Lib.hid hx
  have HT := Lib.hid ht
  have HS := Lib.hid hst
  have HA := Lib.hid ha
  have HP := Lib.hid hap
  have HD := Lib.hid hsd
  have HQ := Lib.hid hp
  clear hx ht hst ha hap hsd hp
  go_enter Tryd.func54, Tryd.ntmps54
  go_wp2_with fail
  go_region_law
    (go_simp; go_at_call 84
     refine (undo_any m n r L _ (HS.out.chg (S := fun _ => False) (((Chg.refl _ w).alloc _).alloc _).drew id id (fun _ _ h => h)) hn 5 0 _ 2 2).mono ?_
     rintro y w2 ⟨rfl, L2, hs2, hc2, ho2⟩
     have HS2 := Lib.hid hs2
     have HO2 := Lib.hid ho2
     have HC2 : Hid (Chg (fun b => b = r ∨ L.ownBlock = some b) w w2) := Lib.hid (((((Chg.refl (fun b => b = r ∨ L.ownBlock = some b) w).alloc _).alloc _).drew).trans hc2)
     have HK2 : Hid (w2.heap[w.heap.size]? = some (.cells #[.slice e.A e.m e.p, .int .i64 e.h] 180 (0, 0))) := Lib.hid (heap_chg (((heap_drew _ _).trans (heap_alloc_ne _ _ _ (by simp))).trans (heap_new w _)) hc2 (fun h => by
       have h2 := HS.out.lt
       rcases h with h | h
       · omega
       · have := h2.2.2 _ h; omega))
     have k0 := cell_of_heap HK2.out 0
     have k1 := cell_of_heap HK2.out 1
     have HT2 : Hid (TreeAt w2 t es S) := Lib.hid (HT.out.chg HC2.out (fun k hk h => by
       have h3 := HP.out k hk
       rcases h with h | h
       · exact h3.2.2.1 h
       · exact h3.2.2.2 h))
     clear hs2 ho2 hc2)
  go_wp2_with (go_at_call 85
               have HSET := set_any t es S e g cs s w2 HT2.out hlen h0 h1 (HA.out w2 (HC2.out.mono (fun k _ h => .inr h))) HD.out HQ.out
               rw [he] at HSET
               refine HSET.mono ?_
               rintro y w3 ⟨rfl, S3, ht3, hc3, hg3⟩
               have HT3 := Lib.hid ht3
               have HC3 := Lib.hid hc3
               have HG3 := Lib.hid hg3
               clear ht3 hc3 hg3 HSET)
  all_goals
    go_ret
    have hxr := HS.out.ne HX.out (by decide) (by decide)
    have hls := HS.out.lt
    have hl2 := HS2.out.lt
    have hx2 : IdxW w2 x m t false := heap_chg HX.out HC2.out (fun h => h.elim hxr.1 hxr.2)
    have hx2' : w2.heap[x]? = some (.cells #[ptr m, ptr t, .bool false] 173 (0, 0)) := hx2
    have hxr2 := HS2.out.ne hx2' (by decide) (by decide)
    have lt2 := HT2.out.lt
    have hown : ∀ b, L2.ownBlock = some b → ¬ S b := fun b hb hS => by
      rcases HO2.out b hb with h | h
      · exact (HP.out b hS).2.2.2 h
      · have := HT.out.lt b hS
        simp at h
        omega
    refine ⟨rfl, S3, L2, ⟨heap_chg hx2' HC3.out (fun h => (HP.out x h).1 rfl), HT3.out, HS2.out.chg HC3.out (fun h => (HP.out m h).2.1 rfl) (fun h => (HP.out r h).2.2.1 rfl) hown, ?_⟩, ?_, ?_⟩
    · intro k hk
      rcases HG3.out k hk with h | h
      · exact ⟨(HP.out k h).1, (HP.out k h).2.1, (HP.out k h).2.2.1, fun hb => hown k hb h⟩
      · have hs2 := HC2.out.size
        exact ⟨by omega, by have := hl2.1; omega, by have := hl2.2.1; omega, fun hb => by have := hl2.2.2 k hb; omega⟩
    · exact (HC2.out.mono (fun k _ h => .inr h)).next HC3.out (fun k _ h => .inl h)
    · intro k hk
      have hs2 := HC2.out.size
      rcases hk with h | h | h
      · rcases HG3.out k h with h | h
        · exact .inl (.inl h)
        · exact .inr (by omega)
      · exact .inl (.inr (.inl h))
      · rcases HO2.out k h with h | h
        · exact .inl (.inr (.inr h))
        · simp at h
          exact .inr (by omega)

end Go.Proofs.YtffgkocokkhahaaDoor

/- Get of the index's tree: of an empty tree, of one page. -/
namespace Go.Proofs.YtffgkocokkhahaaDoor
open Go.RowKit

def GetP (v : Int) (ok : Bool) (w : World) (y : Ending) (w' : World) : Prop := y = .returned (.tuple #[.int .i64 v, .bool ok]) ∧ Below w.heap.size w w'

set_option maxRecDepth 100000 in
set_option maxHeartbeats 1000000 in
theorem get_none (t : Nat) (A : Option Addr) (m p : Nat) (h ver : Int) (w : World) (ht : TreeW w t 0 (.pointer none) (.pointer none) .nilIface ver) :
    Calls Tryd.prog 87 #[.pointer (some ⟨t, 0, none⟩), .agg #[.slice A m p, .int .i64 h]] w (GetP 0 false w) := by
  have ct3 : w.cell? ⟨t, 3, none⟩ = some .nilIface := cell_of_heap ht 3
  have lt := lt_of_heap ht
  clear ht
  go_enter Tryd.func87, Tryd.ntmps87
  go_wp2
  go_ret2
  exact ⟨rfl, (Below.refl _ _).alloc (Nat.le_refl _) _⟩

set_option maxRecDepth 100000 in
set_option maxHeartbeats 1000000 in
theorem get_lone_miss (t b i : Nat) (es : List XE) (A : Option Addr) (m p : Nat) (h : Int) (cs : Nat → Int) (s : Nat → Int) (w : World) (hL : Lone w t b es es.length) (h0 : 0 ≤ h) (h1 : h ≤ 9223372036854775807)
    (ha : Asks w (.slice A m p) es cs) (hsd : ∀ (j : Nat) (e' : XE), es[j]? = some e' → s j = keyC (cs j) h e'.h) (hp : Pos s es.length i false) :
    Calls Tryd.prog 87 #[.pointer (some ⟨t, 0, none⟩), .agg #[.slice A m p, .int .i64 h]] w (GetP 0 false w) := by
  obtain ⟨⟨ver, ht⟩, ⟨rest, hq⟩, _⟩ := hL
  have ct3 : w.cell? ⟨t, 3, none⟩ = some (.iface 190 (.pointer (some ⟨b, 0, none⟩))) := cell_of_heap ht 3
  have lt := lt_of_heap ht
  have HF := Lib.hid (fun w' (hb : Below w.heap.size w w') => find_leaf t b es rest _ _ A m p h cs i false w' (hq.below hb) h0 h1 (ha.below hb) s hsd hp)
  have HB0 := Lib.hid (show Below w.heap.size w (w.alloc (.cells #[.slice A m p, .int .i64 h] 180)) from (Below.refl _ _).alloc (Nat.le_refl _) _)
  clear hq ht ha hsd hp
  go_enter Tryd.func87, Tryd.ntmps87
  go_wp2_with fail
  refine wp_loop_rounds 1 ?_
  rw [rounds_succ]
  go_wp2_with (go_at_call 116; refine (HF.out _ HB0.out).mono ?_; rintro y w1 ⟨rfl, hb1⟩)
  go_ret2
  exact ⟨rfl, up_below' HB0.out hb1⟩

set_option maxRecDepth 100000 in
set_option maxHeartbeats 1000000 in
theorem get_lone_hit (t b i : Nat) (es : List XE) (e : XE) (he : es[i]? = some e) (A : Option Addr) (m p : Nat) (h : Int) (cs : Nat → Int) (s : Nat → Int) (w : World) (hL : Lone w t b es es.length) (h0 : 0 ≤ h) (h1 : h ≤ 9223372036854775807)
    (ha : Asks w (.slice A m p) es cs) (hsd : ∀ (j : Nat) (e' : XE), es[j]? = some e' → s j = keyC (cs j) h e'.h) (hp : Pos s es.length i true) :
    Calls Tryd.prog 87 #[.pointer (some ⟨t, 0, none⟩), .agg #[.slice A m p, .int .i64 h]] w (GetP e.n true w) := by
  obtain ⟨⟨ver, ht⟩, ⟨rest, hq⟩, hsz⟩ := hL
  have ct3 : w.cell? ⟨t, 3, none⟩ = some (.iface 190 (.pointer (some ⟨b, 0, none⟩))) := cell_of_heap ht 3
  have lt := lt_of_heap ht
  have lb := hq.lt
  have hi : i < es.length := (List.getElem?_eq_some_iff.1 he).1
  have hi1 : (i : Int) < 129 := by omega
  have hi2 : (0 : Int) ≤ i := by omega
  have cv : w.cell? ⟨b, 1 + i * 3 + 2, none⟩ = some (.int .i64 e.n) := (hq.cell _).trans (pgL_at XE.cells 3 XE.three es rest _ i 2 e _ he (by omega) rfl)
  have HF := Lib.hid (fun w' (hb : Below w.heap.size w w') => find_leaf t b es rest _ _ A m p h cs i true w' (hq.below hb) h0 h1 (ha.below hb) s hsd hp)
  have HB0 := Lib.hid (show Below w.heap.size w (w.alloc (.cells #[.slice A m p, .int .i64 h] 180)) from (Below.refl _ _).alloc (Nat.le_refl _) _)
  clear hq ht ha hsd hp
  go_enter Tryd.func87, Tryd.ntmps87
  go_wp2_with fail
  refine wp_loop_rounds 1 ?_
  rw [rounds_succ]
  go_wp2_with (go_at_call 116; refine (HF.out _ HB0.out).mono ?_; rintro y w1 ⟨rfl, hb1⟩; have HB1 := Lib.hid (up_below' HB0.out hb1); have dv := (HB1.out.cell (p := ⟨b, 1 + i * 3 + 2, none⟩) lb).trans cv; clear hb1)
  go_ret2
  exact ⟨rfl, HB1.out⟩

end Go.Proofs.YtffgkocokkhahaaDoor

/- Get of the index's tree: below a root. -/
namespace Go.Proofs.YtffgkocokkhahaaDoor
open Go.RowKit

section
variable {P A B : List Pg} {q : Nat} {es : List XE} {i g t : Nat} {s : Nat → Int}

theorem offs_low (hP : P = A ++ (q, es) :: B) (ht : t < A.length) : (ents (P.take (t + 1))).length ≤ (ents A).length := by
  have h1 : (ents (P.take (t + 1))).length ≤ (ents (P.take A.length)).length := ents_take_le (by omega)
  have h2 : P.take A.length = A := by rw [hP, List.take_left' rfl]
  rw [h2] at h1
  exact h1

theorem drop_some {t : Nat} (hn : ∀ p ∈ P, 1 ≤ p.2.length) (ht : t < P.length) : (ents (P.take t)).length < (ents P).length := by
  have hd : P.drop t ≠ [] := by
    intro he
    have := congrArg List.length he
    rw [List.length_drop] at this
    simp at this
    omega
  obtain ⟨p, r, hpr⟩ := List.exists_cons_of_ne_nil hd
  have hp1 := hn p (by have : p ∈ P.drop t := by rw [hpr]; simp
                       exact List.mem_of_mem_drop this)
  conv => rhs; rw [← List.take_append_drop t P, ents_append, List.length_append, hpr, ents_cons, List.length_append]
  omega

theorem offs_less (hP : P = A ++ (q, es) :: B) (hn : ∀ p ∈ P, 1 ≤ p.2.length) (ht : t + 1 < A.length) : (ents (P.take (t + 1))).length < (ents A).length := by
  have h2 : P.take (t + 1) = A.take (t + 1) := by rw [hP, List.take_append_of_le_length (by omega)]
  rw [h2]
  exact drop_some (fun p hp => hn p (by rw [hP]; simp [hp])) (by omega)

theorem offs_high (hP : P = A ++ (q, es) :: B) (hn : ∀ p ∈ P, 1 ≤ p.2.length) (h1 : A.length ≤ t) (h2 : t < A.length + B.length) : (ents A).length + es.length ≤ (ents (P.take (t + 1))).length ∧ (ents (P.take (t + 1))).length < (ents P).length := by
  have h3 : (ents (P.take (A.length + 1))).length ≤ (ents (P.take (t + 1))).length := ents_take_le (by omega)
  have h4 : P.take (A.length + 1) = A ++ [(q, es)] := by
    rw [hP, show A ++ (q, es) :: B = (A ++ [(q, es)]) ++ B by simp]
    exact List.take_left' (by simp)
  rw [h4, ents_append] at h3
  exact ⟨by simp [ents] at h3 ⊢; omega, drop_some hn (by rw [hP]; simp; omega)⟩

/-- At the root: which page, where the key is there and is not the page's first. -/
theorem root_in (hP : P = A ++ (q, es) :: B) (hg : g = (ents A).length + i) (hi : i < es.length) (hi1 : A ≠ [] → 1 ≤ i)
    (hn : ∀ p ∈ P, 1 ≤ p.2.length) (hs : Pos s (ents P).length g true) : Pos (fun t => s (ents (P.take (t + 1))).length) (heads P.tail).length A.length false := by
  have hl : (heads P.tail).length = A.length + B.length := by
    rw [heads_len (fun p hp => hn p (List.mem_of_mem_tail hp)), hP]
    simp
  have hneg : ∀ t, A.length ≤ t → t < A.length + B.length → s (ents (P.take (t + 1))).length < 0 := fun t h1 h2 => by
    obtain ⟨h3, h4⟩ := offs_high hP hn h1 h2
    exact hs.behind _ (by omega) h4
  refine ⟨by rw [hl]; omega, fun t ht => hs.ahead _ ?_, fun t h1 h2 => hneg t (by omega) (by rw [hl] at h2; exact h2), fun h => (by cases h), fun _ h => hneg _ (Nat.le_refl _) (by rw [hl] at h; exact h)⟩
  have h1 := offs_low hP ht
  have := hi1 (by rintro rfl; simp at ht)
  omega

/-- At the root: the key is a page's first. -/
theorem root_hit {r : Nat} (hP : P = A ++ (q, es) :: B) (hr : A.length = r + 1) (hg : g = (ents A).length) (h1 : 1 ≤ es.length)
    (hn : ∀ p ∈ P, 1 ≤ p.2.length) (hs : Pos s (ents P).length g true) : Pos (fun t => s (ents (P.take (t + 1))).length) (heads P.tail).length r true := by
  have hl : (heads P.tail).length = A.length + B.length := by
    rw [heads_len (fun p hp => hn p (List.mem_of_mem_tail hp)), hP]
    simp
  have he : (ents (P.take (r + 1))).length = g := by rw [← hr, hP, List.take_left' rfl, hg]
  refine ⟨by rw [hl]; omega, fun t ht => hs.ahead _ (by have := offs_less (t := t) hP hn (by omega); omega), fun t h2 h3 => ?_, fun _ => ⟨by rw [hl]; omega, ?_⟩, fun h => (by cases h)⟩
  · obtain ⟨h4, h5⟩ := offs_high (t := t) hP hn (by omega) (by rw [hl] at h3; exact h3)
    exact hs.behind _ (by omega) h5
  · show s (ents (P.take (r + 1))).length = 0
    rw [he]
    exact (hs.hit rfl).2

theorem page_hit (hg : g = (ents A).length + i) (hi : i < es.length) (hs : Pos s (ents (A ++ (q, es) :: B)).length g true) : Pos (fun r => s ((ents A).length + r)) es.length i true := by
  have hl : (ents (A ++ (q, es) :: B)).length = (ents A).length + (es.length + (ents B).length) := by rw [ents_append, ents_cons]; simp
  rw [hl] at hs
  refine ⟨by omega, fun r hr => hs.ahead _ (by omega), fun r h1 h2 => hs.behind _ (by omega) (by omega), fun _ => ⟨hi, ?_⟩, fun h => (by cases h)⟩
  have := (hs.hit rfl).2
  rw [hg] at this
  exact this
end

section
variable {t x q i g : Nat} {A B : List Pg} {es : List XE} {kA : Option Addr} {m p : Nat} {h : Int} {cs s : Nat → Int} {w : World}

set_option maxRecDepth 100000 in
set_option maxHeartbeats 1600000 in
theorem get_many_leaf (ok : Bool) (v : Int) (hR : Rooted w t x (A ++ (q, es) :: B) (ents (A ++ (q, es) :: B)).length) (hlen : (A ++ (q, es) :: B).length ≤ 200) (h0 : 0 ≤ h) (h1 : h ≤ 9223372036854775807)
    (ha : Asks w (.slice kA m p) (ents (A ++ (q, es) :: B)) cs) (hsd : ∀ (j : Nat) (e' : XE), (ents (A ++ (q, es) :: B))[j]? = some e' → s j = keyC (cs j) h e'.h)
    (hpr : Pos (fun t => s (ents ((A ++ (q, es) :: B).take (t + 1))).length) (heads (A ++ (q, es) :: B).tail).length A.length false) (hpl : Pos (fun r => s ((ents A).length + r)) es.length i ok)
    (hv : (ok = false ∧ v = 0) ∨ (ok = true ∧ ∃ e, es[i]? = some e ∧ v = e.n)) :
    Calls Tryd.prog 87 #[.pointer (some ⟨t, 0, none⟩), .agg #[.slice kA m p, .int .i64 h]] w (GetP v ok w) := by
  have hn : ∀ p ∈ A ++ (q, es) :: B, 1 ≤ p.2.length := fun p hp => by have := (hR.sizes p hp).1; omega
  obtain ⟨ver, ht⟩ := hR.tree
  obtain ⟨b0, bs, xr, hbl, hx⟩ := hR.root
  have hch := hR.chain
  rw [chain_append] at hch
  obtain ⟨_, ⟨sq, hq⟩, _⟩ := hch
  have hlb : bs.length + 1 = A.length + (B.length + 1) := by
    have := congrArg List.length hbl
    simp [Blocks] at this
    omega
  have hsz : es.length ≤ 128 := (hR.sizes (q, es) (by simp)).2
  have hbq : (b0 :: bs)[A.length]? = some q := by rw [← hbl, blocks_append, blocks_cons, List.getElem?_append_right (by simp [Blocks]), show A.length - (Blocks A).length = 0 by simp [Blocks]]; rfl
  have hcx : w.cell? ⟨x, 1 + A.length * 2, none⟩ = some (.iface 190 (.pointer (some ⟨q, 0, none⟩))) := hx.ch hbq
  have ct3 : w.cell? ⟨t, 3, none⟩ = some (.iface 228 (.pointer (some ⟨x, 0, none⟩))) := cell_of_heap ht 3
  have lt := lt_of_heap ht
  have lx := hx.lt
  have lq := hq.lt
  simp only [List.length_append, List.length_cons] at hlen
  have HFX := Lib.hid (fun w' (hb : Below w.heap.size w w') => find_root t x b0 bs (heads (A ++ (q, es) :: B).tail) xr kA m p h (fun j => cs (ents ((A ++ (q, es) :: B).take (j + 1))).length) A.length false w' (hx.below hb)
    (root_heads (hR.below hb) hbl hn).2 (root_heads hR hbl hn).1 (by omega) h0 h1 ((ha.part (fun j e' he => head_at hn j e' he)).below hb) (fun j => s (ents ((A ++ (q, es) :: B).take (j + 1))).length) (fun j e' he => hsd _ e' (head_at hn j e' he)) hpr)
  have HFL := Lib.hid (fun w' (hb : Below w.heap.size w w') => find_leaf t q es sq _ _ kA m p h (fun r => cs ((ents A).length + r)) i ok w' (hq.below hb) h0 h1 ((ha.part (fun r e' he => page_at he)).below hb) (fun r => s ((ents A).length + r)) (fun r e' he => hsd _ e' (page_at he)) hpl)
  have HQ := Lib.hid hq
  have HB0 := Lib.hid (show Below w.heap.size w (w.alloc (.cells #[.slice kA m p, .int .i64 h] 180)) from (Below.refl _ _).alloc (Nat.le_refl _) _)
  obtain ⟨k, hk⟩ : ∃ k, k = A.length := ⟨_, rfl⟩
  rw [← hk] at hcx HFX
  have hk1 : (k : Int) < 258 := by omega
  have hk2 : (0 : Int) ≤ k := by omega
  have hile := hpl.le
  clear hR hq ht ha hsd hpr hpl hx hn hbl hbq hk
  rcases hv with ⟨rfl, rfl⟩ | ⟨rfl, e, he, rfl⟩
  · go_enter Tryd.func87, Tryd.ntmps87
    go_wp2_with fail
    refine wp_loop_rounds 2 ?_
    rw [rounds_succ]
    go_wp2_with (go_at_call 116; refine (HFX.out _ HB0.out).mono ?_; rintro y w1 ⟨rfl, hb1⟩; have HB1 := Lib.hid (up_below' HB0.out hb1); obtain ⟨hc1, hf1⟩ := bcell hb1; have db0 := (hc1 w.heap.size 0 (by simp)); have db1 := (hc1 w.heap.size 1 (by simp)); have dxk := (HB1.out.cell (p := ⟨x, 1 + k * 2, none⟩) lx).trans hcx; clear hb1)
    rw [rounds_succ]
    go_wp2_with (go_at_call 116; refine (HFL.out _ HB1.out).mono ?_; rintro y w2 ⟨rfl, hb2⟩)
    go_ret2
    exact ⟨rfl, up_below' HB1.out hb2⟩
  · have cv : w.cell? ⟨q, 1 + i * 3 + 2, none⟩ = some (.int .i64 e.n) := (HQ.out.cell _).trans (pgL_at XE.cells 3 XE.three es sq _ i 2 e _ he (by omega) rfl)
    have hil := (List.getElem?_eq_some_iff.1 he).1
    have hi1 : (i : Int) < 129 := by omega
    have hi2 : (0 : Int) ≤ i := by omega
    clear he
    go_enter Tryd.func87, Tryd.ntmps87
    go_wp2_with fail
    refine wp_loop_rounds 2 ?_
    rw [rounds_succ]
    go_wp2_with (go_at_call 116; refine (HFX.out _ HB0.out).mono ?_; rintro y w1 ⟨rfl, hb1⟩; have HB1 := Lib.hid (up_below' HB0.out hb1); obtain ⟨hc1, hf1⟩ := bcell hb1; have db0 := (hc1 w.heap.size 0 (by simp)); have db1 := (hc1 w.heap.size 1 (by simp)); have dxk := (HB1.out.cell (p := ⟨x, 1 + k * 2, none⟩) lx).trans hcx; clear hb1)
    rw [rounds_succ]
    go_wp2_with (go_at_call 116; refine (HFL.out _ HB1.out).mono ?_; rintro y w2 ⟨rfl, hb2⟩; have HB2 := Lib.hid (up_below' HB1.out hb2); have dv := (HB2.out.cell (p := ⟨q, 1 + i * 3 + 2, none⟩) lq).trans cv; clear hb2)
    go_ret2
    exact ⟨rfl, HB2.out⟩
end

end Go.Proofs.YtffgkocokkhahaaDoor

/- Get of the index's tree, whatever the tree. -/
namespace Go.Proofs.YtffgkocokkhahaaDoor
open Go.RowKit

set_option maxRecDepth 100000 in
set_option maxHeartbeats 1600000 in
theorem get_many_root {t x q r : Nat} {A B : List Pg} {es : List XE} {kA : Option Addr} {m p : Nat} {h : Int} {cs s : Nat → Int} {w : World} {e : XE} (hR : Rooted w t x (A ++ (q, es) :: B) (ents (A ++ (q, es) :: B)).length) (hlen : (A ++ (q, es) :: B).length ≤ 200) (h0 : 0 ≤ h) (h1 : h ≤ 9223372036854775807)
    (ha : Asks w (.slice kA m p) (ents (A ++ (q, es) :: B)) cs) (hsd : ∀ (j : Nat) (e' : XE), (ents (A ++ (q, es) :: B))[j]? = some e' → s j = keyC (cs j) h e'.h)
    (hr : A.length = r + 1) (he : es[0]? = some e) (hp : Pos s (ents (A ++ (q, es) :: B)).length (ents A).length true) :
    Calls Tryd.prog 87 #[.pointer (some ⟨t, 0, none⟩), .agg #[.slice kA m p, .int .i64 h]] w (GetP e.n true w) := by
  have hn : ∀ p ∈ A ++ (q, es) :: B, 1 ≤ p.2.length := fun p hp => by have := (hR.sizes p hp).1; omega
  have hpr := root_hit rfl hr rfl (hn (q, es) (by simp)) hn hp
  obtain ⟨ver, ht⟩ := hR.tree
  obtain ⟨b0, bs, xr, hbl, hx⟩ := hR.root
  have hch := hR.chain
  rw [chain_append] at hch
  obtain ⟨_, ⟨sq, hq⟩, _⟩ := hch
  have hlb : bs.length + 1 = A.length + (B.length + 1) := by
    have := congrArg List.length hbl
    simp [Blocks] at this
    omega
  have hbq : (b0 :: bs)[A.length]? = some q := by rw [← hbl, blocks_append, blocks_cons, List.getElem?_append_right (by simp [Blocks]), show A.length - (Blocks A).length = 0 by simp [Blocks]]; rfl
  have hbq2 : bs[r]? = some q := by rw [hr] at hbq; simpa using hbq
  have hcx : w.cell? ⟨x, 1 + r * 2 + 1, none⟩ = some (.pointer (some ⟨q, 0, none⟩)) := hx.sep hbq2
  have cv : w.cell? ⟨q, 3, none⟩ = some (.int .i64 e.n) := (hq.cell _).trans (pgL_at XE.cells 3 XE.three es sq _ 0 2 e _ he (by omega) rfl)
  have ct3 : w.cell? ⟨t, 3, none⟩ = some (.iface 228 (.pointer (some ⟨x, 0, none⟩))) := cell_of_heap ht 3
  have lt := lt_of_heap ht
  have lx := hx.lt
  have lq := hq.lt
  simp only [List.length_append, List.length_cons] at hlen
  have HFX := Lib.hid (fun w' (hb : Below w.heap.size w w') => find_root t x b0 bs (heads (A ++ (q, es) :: B).tail) xr kA m p h (fun j => cs (ents ((A ++ (q, es) :: B).take (j + 1))).length) r true w' (hx.below hb)
    (root_heads (hR.below hb) hbl hn).2 (root_heads hR hbl hn).1 (by omega) h0 h1 ((ha.part (fun j e' he => head_at hn j e' he)).below hb) (fun j => s (ents ((A ++ (q, es) :: B).take (j + 1))).length) (fun j e' he => hsd _ e' (head_at hn j e' he)) hpr)
  have HB0 := Lib.hid (show Below w.heap.size w (w.alloc (.cells #[.slice kA m p, .int .i64 h] 180)) from (Below.refl _ _).alloc (Nat.le_refl _) _)
  have hk1 : (r : Int) < 257 := by omega
  have hk2 : (0 : Int) ≤ r := by omega
  clear hR hq ht ha hsd hpr hx hn hbl hbq hbq2 hr hp he
  go_enter Tryd.func87, Tryd.ntmps87
  go_wp2_with fail
  refine wp_loop_rounds 1 ?_
  rw [rounds_succ]
  go_wp2_with (go_at_call 116; refine (HFX.out _ HB0.out).mono ?_; rintro y w1 ⟨rfl, hb1⟩; have HB1 := Lib.hid (up_below' HB0.out hb1); have dxk := (HB1.out.cell (p := ⟨x, 1 + r * 2 + 1, none⟩) lx).trans hcx; have dv := (HB1.out.cell (p := ⟨q, 3, none⟩) lq).trans cv; clear hb1)
  go_ret2
  exact ⟨rfl, HB1.out⟩

/-- Get, whatever the tree: v is what the key's entry has, or 0. -/
theorem get_any (t : Nat) (L : List XE) (S : Nat → Prop) (kA : Option Addr) (m p : Nat) (h : Int) (g : Nat) (ok : Bool) (v : Int) (cs : Nat → Int) (s : Nat → Int) (w : World) (hT : TreeAt w t L S) (hlen : L.length ≤ 12800) (h0 : 0 ≤ h) (h1 : h ≤ 9223372036854775807)
    (ha : Asks w (.slice kA m p) L cs) (hsd : ∀ (j : Nat) (e' : XE), L[j]? = some e' → s j = keyC (cs j) h e'.h) (hp : Pos s L.length g ok) (hv : (ok = false ∧ v = 0) ∨ (ok = true ∧ ∃ e, L[g]? = some e ∧ v = e.n)) :
    Calls Tryd.prog 87 #[.pointer (some ⟨t, 0, none⟩), .agg #[.slice kA m p, .int .i64 h]] w (GetP v ok w) := by
  cases hT with
  | none h =>
    obtain ⟨ver, hT⟩ := h
    rcases hv with ⟨rfl, rfl⟩ | ⟨rfl, e, he, rfl⟩
    · exact get_none t kA m p _ ver w hT
    · simp at he
  | lone hT =>
    rcases hv with ⟨rfl, rfl⟩ | ⟨rfl, e, he, rfl⟩
    · exact get_lone_miss t _ g L kA m p h cs s w hT h0 h1 ha hsd hp
    · exact get_lone_hit t _ g L e he kA m p h cs s w hT h0 h1 ha hsd hp
  | many hT =>
    rename_i x P
    have hP : P ≠ [] := by rintro rfl; have := hT.two; simp at this
    have hl := hT.pages
    have hn : ∀ p ∈ P, 1 ≤ p.2.length := fun p hp => by have := (hT.sizes p hp).1; omega
    obtain ⟨A, q, es, B, i, rfl, hg, hi, hi1⟩ := place P g hP hp.le
    rcases hv with ⟨rfl, rfl⟩ | ⟨rfl, e, he, rfl⟩
    · exact get_many_leaf false 0 hT (by omega) h0 h1 ha hsd (root_pos rfl hg hi hi1 hn hp) (page_pos hg hi hp) (.inl ⟨rfl, rfl⟩)
    · rcases Nat.lt_or_ge i es.length with hlt | hge
      · refine get_many_leaf true e.n hT (by omega) h0 h1 ha hsd (root_in rfl hg hlt hi1 hn hp) (page_hit hg hlt hp) (.inr ⟨rfl, e, ?_, rfl⟩)
        have := page_at (A := A) (B := B) (q := q) (List.getElem?_eq_getElem hlt)
        rw [← hg, he] at this
        rw [List.getElem?_eq_getElem hlt]
        exact this.symm
      · have hgl := (List.getElem?_eq_some_iff.1 he).1
        rw [ents_append, ents_cons] at hgl
        cases B with
        | nil => simp [ents] at hgl hg; omega
        | cons pg B =>
          obtain ⟨q2, es2⟩ := pg
          have h12 := hn (q2, es2) (by simp)
          have e1 : A ++ (q, es) :: (q2, es2) :: B = (A ++ [(q, es)]) ++ (q2, es2) :: B := by simp
          have hg2 : g = (ents (A ++ [(q, es)])).length := by rw [ents_append]; simp [ents] at hg ⊢; omega
          rw [e1] at hT ha hsd hp he hl hlen
          have he2 : es2[0]? = some e := by
            have := page_at (A := A ++ [(q, es)]) (B := B) (q := q2) (es := es2) (r := 0) (List.getElem?_eq_getElem h12)
            rw [Nat.add_zero, ← hg2, he] at this
            rw [List.getElem?_eq_getElem h12]
            exact this.symm
          rw [hg2] at hp
          exact get_many_root hT (by omega) h0 h1 ha hsd (r := A.length) (by simp) he2 hp

end Go.Proofs.YtffgkocokkhahaaDoor

/- (*memIndex).Create of an index that is unique: of NULL; of values that are new; of values that are there. PRINTED BY wip/tpl/gen_xua.py. -/
namespace Go.Proofs.YtffgkocokkhahaaDoor
open Go.RowKit

set_option maxRecDepth 100000 in
set_option maxHeartbeats 1600000 in
theorem null_yes (A : Option Addr) (c : Nat) (w : World) (hr : Reads w w.heap.size 1 A 1 [.nilIface]) : Calls Tryd.prog 86 #[.slice A 1 c] w fun e w' => e = .returned (.bool true) ∧ w = w' := by
  obtain ⟨ad, u, rfl, hb, hu, hc⟩ := hr.at_ (k := 0) (by omega)
  obtain rfl : u = .nilIface := by simpa using hu.symm
  have hc2 : w.cell? ad = some .nilIface := by simpa [Addr.add] using hc
  have e0 : ad.add 0 = ad := by simp [Addr.add]
  clear hr hu
  go_enter Tryd.func86, Tryd.ntmps86
  go_wp2
  refine wp_loop_rounds 2 ?_
  rw [rounds_succ]
  go_wp2
  rw [rounds_succ]
  go_wp2
  go_ret
  exact ⟨rfl, rfl⟩

set_option maxRecDepth 100000 in
set_option maxHeartbeats 1600000 in
theorem null_no (A : Option Addr) (c : Nat) (w : World) (t : TypeId) (v : Value) (hr : Reads w w.heap.size 1 A 1 [.iface t v]) : Calls Tryd.prog 86 #[.slice A 1 c] w fun e w' => e = .returned (.bool false) ∧ w = w' := by
  obtain ⟨ad, u, rfl, hb, hu, hc⟩ := hr.at_ (k := 0) (by omega)
  obtain rfl : u = .iface t v := by simpa using hu.symm
  have hc2 : w.cell? ad = some (.iface t v) := by simpa [Addr.add] using hc
  have e0 : ad.add 0 = ad := by simp [Addr.add]
  clear hr hu
  go_enter Tryd.func86, Tryd.ntmps86
  go_wp2
  refine wp_loop_rounds 1 ?_
  rw [rounds_succ]
  go_wp2
  go_ret
  exact ⟨rfl, rfl⟩

set_option maxRecDepth 100000 in
set_option maxHeartbeats 3200000 in
theorem create_null (x m t n r : Nat) (L : Value) (S : Nat → Prop) (es : List XE) (A : Option Addr) (c0 : Nat) (hd : Int) (g : Nat) (cs s : Nat → Int) (w : World) (h : IdxAt w x m t n r L true S es) (hn : n ≤ 100000) (hlen : es.length ≤ 12800) (h0 : 0 ≤ hd) (h1 : hd ≤ 9223372036854775807)
    (ha : ∀ w', Chg (Mut S r L) w w' → Asks w' (.slice none 0 0) es cs) (hnull : Hid (Calls Tryd.prog 86 #[.slice A 1 c0] w fun e w' => e = .returned (.bool true) ∧ w = w')) (hsd : ∀ (j : Nat) (e' : XE), es[j]? = some e' → s j = keyC (cs j) hd e'.h) (hp : Pos s es.length g false) :
    Calls Tryd.prog 54 #[.pointer (some ⟨x, 0, none⟩), .slice A 1 c0, .int .i64 hd] w (CreateP x m t (n + 1) r L true S (es.take g ++ ⟨[], none, 0, 0, hd, 0⟩ :: es.drop g) w) := by
  obtain ⟨hx, ht, hst, hap⟩ := h
  have c0 : w.cell? ⟨x, 0, none⟩ = some (.pointer (some ⟨m, 0, none⟩)) := cell_of_heap hx 0
  have c1 : w.cell? ⟨x, 1, none⟩ = some (.pointer (some ⟨t, 0, none⟩)) := cell_of_heap hx 1
  have c2 : w.cell? ⟨x, 2, none⟩ = some (.bool true) := cell_of_heap hx 2
  have lx := lt_of_heap hx
  have HX := Lib.hid hx
  have HT := Lib.hid ht
  have HS := Lib.hid hst
  have HA := Lib.hid ha
  have HP := Lib.hid hap
  have HD := Lib.hid hsd
  have HQ := Lib.hid hp
  clear hx ht hst ha hap hsd hp
  go_enter Tryd.func54, Tryd.ntmps54
  go_wp2_with (go_at_call 86; refine hnull.out.mono ?_; rintro y w1 ⟨rfl, rfl⟩)
  go_region_law
    (go_simp; go_at_call 84
     refine (undo_any m n r L _ (HS.out.chg (S := fun _ => False) (((Chg.refl _ w).alloc _).alloc _).drew id id (fun _ _ h => h)) hn 5 0 _ 2 2).mono ?_
     rintro y w2 ⟨rfl, L2, hs2, hc2, ho2⟩
     have HS2 := Lib.hid hs2
     have HO2 := Lib.hid ho2
     have HC2 : Hid (Chg (fun b => b = r ∨ L.ownBlock = some b) w w2) := Lib.hid (((((Chg.refl (fun b => b = r ∨ L.ownBlock = some b) w).alloc _).alloc _).drew).trans hc2)
     have HK2 : Hid (w2.heap[w.heap.size]? = some (.cells #[.slice none 0 0, .int .i64 hd] 180 (0, 0))) := Lib.hid (heap_chg (((heap_drew _ _).trans (heap_alloc_ne _ _ _ (by simp))).trans (heap_new w _)) hc2 (fun h => by
       have h2 := HS.out.lt
       rcases h with h | h
       · omega
       · have := h2.2.2 _ h; omega))
     have k0 := cell_of_heap HK2.out 0
     have k1 := cell_of_heap HK2.out 1
     have HT2 : Hid (TreeAt w2 t es S) := Lib.hid (HT.out.chg HC2.out (fun k hk h => by
       have h3 := HP.out k hk
       rcases h with h | h
       · exact h3.2.2.1 h
       · exact h3.2.2.2 h))
     clear hs2 ho2 hc2)
  go_wp2_with (go_at_call 85
               have HSET := set_any t es S ⟨[], none, 0, 0, hd, 0⟩ g cs s w2 HT2.out hlen h0 h1 (HA.out w2 (HC2.out.mono (fun k _ h => .inr h))) HD.out HQ.out
               refine HSET.mono ?_
               rintro y w3 ⟨rfl, S3, ht3, hc3, hg3⟩
               have HT3 := Lib.hid ht3
               have HC3 := Lib.hid hc3
               have HG3 := Lib.hid hg3
               clear ht3 hc3 hg3 HSET)
  all_goals
    go_ret
    have hxr := HS.out.ne HX.out (by decide) (by decide)
    have hls := HS.out.lt
    have hl2 := HS2.out.lt
    have hx2 : IdxW w2 x m t true := heap_chg HX.out HC2.out (fun h => h.elim hxr.1 hxr.2)
    have hx2' : w2.heap[x]? = some (.cells #[ptr m, ptr t, .bool true] 173 (0, 0)) := hx2
    have hxr2 := HS2.out.ne hx2' (by decide) (by decide)
    have lt2 := HT2.out.lt
    have hown : ∀ b, L2.ownBlock = some b → ¬ S b := fun b hb hS => by
      rcases HO2.out b hb with h | h
      · exact (HP.out b hS).2.2.2 h
      · have := HT.out.lt b hS
        simp at h
        omega
    refine ⟨rfl, S3, L2, ⟨heap_chg hx2' HC3.out (fun h => (HP.out x h).1 rfl), HT3.out, HS2.out.chg HC3.out (fun h => (HP.out m h).2.1 rfl) (fun h => (HP.out r h).2.2.1 rfl) hown, ?_⟩, ?_, ?_⟩
    · intro k hk
      rcases HG3.out k hk with h | h
      · exact ⟨(HP.out k h).1, (HP.out k h).2.1, (HP.out k h).2.2.1, fun hb => hown k hb h⟩
      · have hs2 := HC2.out.size
        exact ⟨by omega, by have := hl2.1; omega, by have := hl2.2.1; omega, fun hb => by have := hl2.2.2 k hb; omega⟩
    · exact (HC2.out.mono (fun k _ h => .inr h)).next HC3.out (fun k _ h => .inl h)
    · intro k hk
      have hs2 := HC2.out.size
      rcases hk with h | h | h
      · rcases HG3.out k h with h | h
        · exact .inl (.inl h)
        · exact .inr (by omega)
      · exact .inl (.inr (.inl h))
      · rcases HO2.out k h with h | h
        · exact .inl (.inr (.inr h))
        · simp at h
          exact .inr (by omega)


end Go.Proofs.YtffgkocokkhahaaDoor

/- (*memIndex).Create of an index that is unique: values that are new; values that are there. -/
namespace Go.Proofs.YtffgkocokkhahaaDoor
open Go.RowKit

set_option maxRecDepth 100000 in
set_option maxHeartbeats 1600000 in
theorem create_dup (x m t : Nat) (A : Option Addr) (c0 : Nat) (hd v : Int) (w : World) (hx : IdxW w x m t true) (hnull : Hid (Calls Tryd.prog 86 #[.slice A 1 c0] (w) fun e w' => e = .returned (.bool false) ∧ w = w'))
    (hget : Hid (∀ w', Below w.heap.size w w' → Calls Tryd.prog 87 #[.pointer (some ⟨t, 0, none⟩), .agg #[.slice A 1 c0, .int .i64 0]] w' (GetP v true w'))) :
    Calls Tryd.prog 54 #[.pointer (some ⟨x, 0, none⟩), .slice A 1 c0, .int .i64 hd] w fun y w' => y = .returned (.iface 177 (.slice A 1 c0)) ∧ Below w.heap.size w w' := by
  have c1 : w.cell? ⟨x, 1, none⟩ = some (.pointer (some ⟨t, 0, none⟩)) := cell_of_heap hx 1
  have c2 : w.cell? ⟨x, 2, none⟩ = some (.bool true) := cell_of_heap hx 2
  clear hx
  go_enter Tryd.func54, Tryd.ntmps54
  go_wp2_with (first
    | (go_at_call 86; refine hnull.out.mono ?_; rintro y w1 ⟨rfl, rfl⟩)
    | (go_at_call 87; refine (hget.out _ ((Below.refl _ _).alloc (Nat.le_refl _) _)).mono ?_; rintro y w1 ⟨rfl, hb1⟩))
  go_ret
  exact ⟨rfl, up_below' ((Below.refl _ _).alloc (Nat.le_refl _) _) hb1⟩

set_option maxRecDepth 100000 in
set_option maxHeartbeats 3200000 in
theorem create_new (x m t n r : Nat) (L : Value) (S : Nat → Prop) (es : List XE) (us : List VV) (A : Option Addr) (c0 : Nat) (hd : Int) (g : Nat) (cs s : Nat → Int) (w : World) (h : IdxAt w x m t n r L true S es) (hn : n ≤ 100000) (hlen : es.length ≤ 12800)
    (ha : ∀ w', Chg (Mut S r L) w w' → Asks w' (.slice A 1 c0) es cs) (hsd : ∀ (j : Nat) (e' : XE), es[j]? = some e' → s j = keyC (cs j) 0 e'.h) (hp : Pos s es.length g false)
    (hnull : Hid (Calls Tryd.prog 86 #[.slice A 1 c0] w fun e w' => e = .returned (.bool false) ∧ w = w')) :
    Calls Tryd.prog 54 #[.pointer (some ⟨x, 0, none⟩), .slice A 1 c0, .int .i64 hd] w (CreateP x m t (n + 1) r L true S (es.take g ++ ⟨us, A, 1, c0, 0, hd⟩ :: es.drop g) w) := by
  obtain ⟨hx, ht, hst, hap⟩ := h
  have hget : Hid (∀ w', Below w.heap.size w w' → Calls Tryd.prog 87 #[.pointer (some ⟨t, 0, none⟩), .agg #[.slice A 1 c0, .int .i64 0]] w' (GetP 0 false w')) :=
    Lib.hid (fun w' hb => get_any t es S A 1 c0 0 g false 0 cs s w' (ht.chg (Chg.of_below (S := fun _ => False) hb) (fun _ _ h => h)) hlen (by omega) (by omega) (ha w' (Chg.of_below hb)) hsd hp (.inl ⟨rfl, rfl⟩))
  have c0' : w.cell? ⟨x, 0, none⟩ = some (.pointer (some ⟨m, 0, none⟩)) := cell_of_heap hx 0
  have c1 : w.cell? ⟨x, 1, none⟩ = some (.pointer (some ⟨t, 0, none⟩)) := cell_of_heap hx 1
  have c2 : w.cell? ⟨x, 2, none⟩ = some (.bool true) := cell_of_heap hx 2
  have lx := lt_of_heap hx
  have HX := Lib.hid hx
  have HT := Lib.hid ht
  have HS := Lib.hid hst
  have HA := Lib.hid ha
  have HP := Lib.hid hap
  have HD := Lib.hid hsd
  have HQ := Lib.hid hp
  clear hx ht hst ha hap hsd hp
  go_enter Tryd.func54, Tryd.ntmps54
  go_wp2_with (first
    | (go_at_call 86; refine hnull.out.mono ?_; rintro y w1 ⟨rfl, rfl⟩)
    | (go_at_call 87
       refine (hget.out _ ((Below.refl _ _).alloc (Nat.le_refl _) _)).mono ?_
       rintro y w1 ⟨rfl, hb1⟩
       have HB1 : Hid (Below w.heap.size w w1) := Lib.hid (up_below' ((Below.refl _ _).alloc (Nat.le_refl _) _) hb1)
       have HK1 := Lib.hid (heap_below (heap_new w _) hb1)
       have k10 := cell_of_heap HK1.out 0
       have k11 := cell_of_heap HK1.out 1
       have x10 : w1.cell? ⟨x, 0, none⟩ = some (.pointer (some ⟨m, 0, none⟩)) := (HB1.out.cell (p := ⟨x, 0, none⟩) lx).trans c0'
       have lk := lt_of_heap HK1.out
       have lx1 : x < w1.heap.size := Nat.lt_of_lt_of_le lx HB1.out.size
       clear hb1))
  go_region_law
    (go_simp; go_at_call 84
     refine (undo_any m n r L _ (HS.out.chg (S := fun _ => False) ((Chg.of_below HB1.out).alloc _).drew id id (fun _ _ h => h)) hn 5 0 _ 2 2).mono ?_
     rintro y w2 ⟨rfl, L2, hs2, hc2, ho2⟩
     have HS2 := Lib.hid hs2
     have HO2 := Lib.hid ho2
     have HC2 : Hid (Chg (fun b => b = r ∨ L.ownBlock = some b) w w2) := Lib.hid ((((Chg.of_below (S := fun b => b = r ∨ L.ownBlock = some b) HB1.out).alloc _).drew).trans hc2)
     have HK2 : Hid (w2.heap[w.heap.size]? = some (.cells #[.slice A 1 c0, .int .i64 0] 180 (0, 0))) := Lib.hid (heap_chg (((heap_drew _ _).trans (heap_alloc_ne _ _ _ lk)).trans HK1.out) hc2 (fun h => by
       have h2 := HS.out.lt
       rcases h with h | h
       · omega
       · have := h2.2.2 _ h; omega))
     have k0 := cell_of_heap HK2.out 0
     have k1 := cell_of_heap HK2.out 1
     have HT2 : Hid (TreeAt w2 t es S) := Lib.hid (HT.out.chg HC2.out (fun k hk h => by
       have h3 := HP.out k hk
       rcases h with h | h
       · exact h3.2.2.1 h
       · exact h3.2.2.2 h))
     clear hs2 ho2 hc2)
  go_wp2_with (go_at_call 85
               have HSET := set_any t es S ⟨us, A, 1, c0, 0, hd⟩ g cs s w2 HT2.out hlen (by show (0 : Int) ≤ 0; omega) (by show (0 : Int) ≤ 9223372036854775807; omega) (HA.out w2 (HC2.out.mono (fun k _ h => .inr h))) HD.out HQ.out
               refine HSET.mono ?_
               rintro y w3 ⟨rfl, S3, ht3, hc3, hg3⟩
               have HT3 := Lib.hid ht3
               have HC3 := Lib.hid hc3
               have HG3 := Lib.hid hg3
               clear ht3 hc3 hg3 HSET)
  all_goals
    go_ret
    have hxr := HS.out.ne HX.out (by decide) (by decide)
    have hls := HS.out.lt
    have hl2 := HS2.out.lt
    have hx2 : IdxW w2 x m t true := heap_chg HX.out HC2.out (fun h => h.elim hxr.1 hxr.2)
    have hx2' : w2.heap[x]? = some (.cells #[ptr m, ptr t, .bool true] 173 (0, 0)) := hx2
    have hown : ∀ b, L2.ownBlock = some b → ¬ S b := fun b hb hS => by
      rcases HO2.out b hb with h | h
      · exact (HP.out b hS).2.2.2 h
      · have := HT.out.lt b hS
        have := HB1.out.size
        simp at h
        omega
    refine ⟨rfl, S3, L2, ⟨heap_chg hx2' HC3.out (fun h => (HP.out x h).1 rfl), HT3.out, HS2.out.chg HC3.out (fun h => (HP.out m h).2.1 rfl) (fun h => (HP.out r h).2.2.1 rfl) hown, ?_⟩, ?_, ?_⟩
    · intro k hk
      rcases HG3.out k hk with h | h
      · exact ⟨(HP.out k h).1, (HP.out k h).2.1, (HP.out k h).2.2.1, fun hb => hown k hb h⟩
      · have hs2 := HC2.out.size
        exact ⟨by omega, by have := hl2.1; omega, by have := hl2.2.1; omega, fun hb => by have := hl2.2.2 k hb; omega⟩
    · exact (HC2.out.mono (fun k _ h => .inr h)).next HC3.out (fun k _ h => .inl h)
    · intro k hk
      have hs2 := HC2.out.size
      rcases hk with h | h | h
      · rcases HG3.out k h with h | h
        · exact .inl (.inl h)
        · exact .inr (by omega)
      · exact .inl (.inr (.inl h))
      · rcases HO2.out k h with h | h
        · exact .inl (.inr (.inr h))
        · have := HB1.out.size
          simp at h
          exact .inr (by omega)

end Go.Proofs.YtffgkocokkhahaaDoor
