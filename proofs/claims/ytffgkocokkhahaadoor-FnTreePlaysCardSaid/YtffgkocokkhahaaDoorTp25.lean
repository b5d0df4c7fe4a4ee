/-
  What goes through a tree: from its first entry on, from its last one back, from a key's place on and back. || impl.treeDeed: set, get, delete, clear. PRINTED BY wip/tpl/gen_ytd.py. || impl.treeDeed: get. PRINTED BY wip/tpl/gen_ytd.py. || impl.treeDeed: delete. PRINTED BY wip/tpl/gen_ytd.py. || impl.treeDeed: clear. PRINTED BY wip/tpl/gen_ytd.py. || impl.treeDeed: set. PRINTED BY wip/tpl/gen_ytd.py. || impl.treeDeed: len, first, last. PRINTED BY wip/tpl/gen_ytd.py.
-/
import Derived.Test.YtffgkocokkhahaaDoorTp24
import Derived.Deep.RegionLaw

/- What goes through a tree: from its first entry on, from its last one back, from a key's place on and back. -/
namespace Go.Proofs.YtffgkocokkhahaaDoor
open Go.RowKit
variable {dsc : Bool} {G : Value}

def OutsBoth (x : XE) (w1 : World) : Prop := Calls Tryd.prog 39 #[.slice x.A x.m x.p] w1 (OutsPost x.l w1) ∧ Calls Tryd.prog 39 #[.slice x.B x.n x.q] w1 (OutsPost x.V w1)

theorem enum_lt {w : World} {P : List Pg} {b t : Nat} {ver : Int} {E : Value} {g : Nat} (h : AtN P w b t ver E g) : b < w.heap.size := by
  cases h with
  | at_ _ _ h => exact lt_of_heap h
  | end_ h => exact lt_of_heap h
  | void _ h => exact lt_of_heap h
theorem enum_ltP {w : World} {P : List Pg} {b t : Nat} {ver : Int} {E : Value} {g : Nat} (h : AtP P w b t ver E g) : b < w.heap.size := by
  cases h with
  | at_ _ _ h => exact lt_of_heap h
  | end_ h => exact lt_of_heap h
  | void _ h => exact lt_of_heap h
theorem AtN.chg {S : Nat → Prop} {w w' : World} {P : List Pg} {b t : Nat} {ver : Int} {E : Value} {g : Nat} (h : AtN P w b t ver E g) (hc : Chg S w w') (hn : ¬ S b) : AtN P w' b t ver E g := by
  cases h with
  | at_ hP hi h => exact .at_ hP hi (heap_chg (show w.heap[b]? = _ from h) hc hn)
  | end_ h => exact .end_ (heap_chg (show w.heap[b]? = _ from h) hc hn)
  | void hP h => exact .void hP (heap_chg (show w.heap[b]? = _ from h) hc hn)
theorem AtP.chg {S : Nat → Prop} {w w' : World} {P : List Pg} {b t : Nat} {ver : Int} {E : Value} {g : Nat} (h : AtP P w b t ver E g) (hc : Chg S w w') (hn : ¬ S b) : AtP P w' b t ver E g := by
  cases h with
  | at_ hP hi h => exact .at_ hP hi (heap_chg (show w.heap[b]? = _ from h) hc hn)
  | end_ h => exact .end_ (heap_chg (show w.heap[b]? = _ from h) hc hn)
  | void hP h => exact .void hP (heap_chg (show w.heap[b]? = _ from h) hc hn)

section
variable {P : List Pg} {b t : Nat} {ver : Int} {E : Value} {c : Int} {fi la r : Value} {w : World} {n : Int} {hit : Bool}

theorem walk_on {g : Nat} (hg : g ≤ (ents P).length) (h0 : 0 ≤ n) (h1 : n ≤ 1000000) (hch : Chain w (.pointer none) P (.pointer none)) (hn : ∀ p ∈ P, 1 ≤ p.2.length) (hpb : ∀ p ∈ P, ¬ p.1 = b)
    (ht : TreeW G w t c fi la r ver) (htb : ¬ t = b) (hE : HasEof w E) (hbE : ¬ 0 = b) (h : AtN P w b t ver E g) (lb : b < w.heap.size)
    (HD : ∀ (x : XE) (w1 : World), Chg (fun x => x = b) w w1 → x ∈ ents P → OutsBoth x w1) :
    Calls Tryd.prog 46 #[.pointer (some ⟨b, 0, none⟩), .nilIface, .int .i64 n, .bool true, .bool hit] w (TWalkP n hit (((ents P).drop g).map XE.pr) b w) := by
  refine twalk_next b n hit ((ents P).drop g) (fun k w1 => AtN P w1 b t ver E (g + k)) E w h0 h1 lb hE.form h (Lib.hid fun k x w1 hc hi hx => ?_) (Lib.hid fun w1 hc hi => ?_) (Lib.hid fun k w1 w2 S hi hc hS => hi.chg hc hS) (Lib.hid fun k x w1 hc hx => ?_)
  · rw [List.getElem?_drop] at hx
    exact Next_step x (chain_chg hch hc hpb) hn (ht.chg hc htb) (hE.chg hc hbE) hbE hi hx
  · rw [List.length_drop, show g + ((ents P).length - g) = (ents P).length by omega] at hi
    exact Next_stop (chain_chg hch hc hpb) hn (ht.chg hc htb) (hE.chg hc hbE) hbE hi
  · exact HD x w1 hc (List.mem_of_mem_drop (List.mem_of_getElem? hx))

theorem walk_back {g : Nat} (hg : g ≤ (ents P).length) (h0 : 0 ≤ n) (h1 : n ≤ 1000000) (hch : Chain w (.pointer none) P (.pointer none)) (hn : ∀ p ∈ P, 1 ≤ p.2.length) (hpb : ∀ p ∈ P, ¬ p.1 = b)
    (ht : TreeW G w t c fi la r ver) (htb : ¬ t = b) (hE : HasEof w E) (hbE : ¬ 0 = b) (h : AtP P w b t ver E g) (lb : b < w.heap.size)
    (HD : ∀ (x : XE) (w1 : World), Chg (fun x => x = b) w w1 → x ∈ ents P → OutsBoth x w1) :
    Calls Tryd.prog 46 #[.pointer (some ⟨b, 0, none⟩), .nilIface, .int .i64 n, .bool false, .bool hit] w (TWalkP n hit (((ents P).take g).reverse.map XE.pr) b w) := by
  have hl : ((ents P).take g).length = g := by simp; omega
  refine twalk_prev b n hit ((ents P).take g).reverse (fun k w1 => AtP P w1 b t ver E (g - k)) E w h0 h1 lb hE.form h (Lib.hid fun k x w1 hc hi hx => ?_) (Lib.hid fun w1 hc hi => ?_) (Lib.hid fun k w1 w2 S hi hc hS => hi.chg hc hS) (Lib.hid fun k x w1 hc hx => ?_)
  · have hk : k < ((ents P).take g).length := by
      have := (List.getElem?_eq_some_iff.1 hx).1
      simpa using this
    rw [List.getElem?_reverse hk, hl] at hx
    rw [hl] at hk
    rw [List.getElem?_take_of_lt (by omega)] at hx
    have e1 : g - k = (g - (k + 1)) + 1 := by omega
    rw [show g - 1 - k = g - (k + 1) by omega] at hx
    rw [e1] at hi
    exact Prev_step x (chain_chg hch hc hpb) hn (ht.chg hc htb) (hE.chg hc hbE) hbE hi hx
  · rw [List.length_reverse, hl, Nat.sub_self] at hi
    exact Prev_stop (chain_chg hch hc hpb) hn (ht.chg hc htb) (hE.chg hc hbE) hbE hi (.inl rfl)
  · exact HD x w1 hc (List.mem_of_mem_take (List.mem_reverse.1 (List.mem_of_getElem? hx)))

theorem walk_off (h0 : 0 ≤ n) (h1 : n ≤ 1000000) (hch : Chain w (.pointer none) P (.pointer none)) (hn : ∀ p ∈ P, 1 ≤ p.2.length) (hpb : ∀ p ∈ P, ¬ p.1 = b)
    (ht : TreeW G w t c fi la r ver) (htb : ¬ t = b) (hE : HasEof w E) (hbE : ¬ 0 = b) (h : AtP P w b t ver E ((ents P).length + 1)) (lb : b < w.heap.size) :
    Calls Tryd.prog 46 #[.pointer (some ⟨b, 0, none⟩), .nilIface, .int .i64 n, .bool false, .bool hit] w (TWalkP n hit [] b w) := by
  refine twalk_prev b n hit [] (fun k w1 => AtP P w1 b t ver E ((ents P).length + 1)) E w h0 h1 lb hE.form h (Lib.hid fun k x w1 hc hi hx => (by simp at hx)) (Lib.hid fun w1 hc hi => ?_) (Lib.hid fun k w1 w2 S hi hc hS => hi.chg hc hS) (Lib.hid fun k x w1 hc hx => (by simp at hx))
  exact Prev_stop (chain_chg hch hc hpb) hn (ht.chg hc htb) (hE.chg hc hbE) hbE hi (.inr rfl)
end

/-- What a walk tells. -/
def TAnsW (hit : Bool) (ps : List PR) (B : Nat) (w : World) (y : Ending) (w' : World) : Prop :=
  ∃ P c rs, y = .returned (.agg #[.bool hit, .int .i64 0, .slice none 0 0, .slice P rs.length c]) ∧ PairsIn (fun z => w.heap.size ≤ z ∧ z < w'.heap.size) w' P rs ∧ PairsOut ps rs ∧ Below B w w'

/-- What may go through a tree then. -/
def TSeekG (ps : List PR) (N : Int) (nx hit : Bool) (w : World) (it er : Value) (w1 : World) : Prop :=
  Below w.heap.size w w1 ∧ ∀ w2, Below w1.heap.size w1 w2 → Calls Tryd.prog 46 #[it, er, .int .i64 N, .bool nx, .bool hit] w2 (TAnsW hit ps w.heap.size w2)

theorem TWalkP.ans {n : Int} {hit : Bool} {ps qs : List PR} {b B : Nat} {w : World} {y : Ending} {w' : World} (h : TWalkP n hit ps b w y w') (hB : B ≤ w.heap.size) (hb : B ≤ b) (hq : ps.take n.toNat = qs) : TAnsW hit qs B w y w' := by
  obtain ⟨P, c, rs, rfl, hi, ho, hc⟩ := h
  exact ⟨P, c, rs, rfl, hi, hq ▸ ho, hc.below hB (fun k e => by rw [e]; exact hb)⟩

section
variable {n t : Nat} {st : List PR} {M D : Nat → Prop} {w : World}

theorem tr_outs {L : List XE} {b : Nat} {w2 : World} (hk : ∀ e ∈ L, EOk D w e) (hb : Below w.heap.size w w2) (hD : ∀ k, D k → ¬ k = b) : ∀ (x : XE) (w1 : World), Chg (fun x => x = b) w2 w1 → x ∈ L → OutsBoth x w1 := by
  intro x w1 hc hx
  have h := ((hk x hx).chg (Chg.of_below (S := fun _ => False) hb) (fun _ _ h => h)).chg hc hD
  exact ⟨h.heldK.outs, h.heldV.outs⟩

def SeekR (ps : List PR) (N : Int) (nx : Bool) (w : World) (y : Ending) (w1 : World) : Prop := ∃ it er, y = .returned (.tuple #[it, er]) ∧ TSeekG ps N nx false w it er w1

theorem seekR_none {N : Int} {nx : Bool} {E : Value} (hE : HasEof w E) {y : Ending} {w1 : World} (h : y = .returned (.tuple #[.pointer none, E]) ∧ Below w.heap.size w w1) : SeekR [] N nx w y w1 := by
  obtain ⟨rfl, hb⟩ := h
  refine ⟨_, _, rfl, hb, fun w2 hb2 => (twalk_none E N nx false w2 hE.form).mono ?_⟩
  rintro y w' ⟨rfl, hb3⟩
  exact ⟨none, 0, [], rfl, PairsIn.nil _ _, PairsOut.nil, hb3.mono (Nat.le_trans hb.size hb2.size)⟩

theorem tr_first (h : TrX dsc n t st M D w) {E : Value} (hE : HasEof w E) {N : Int} (h0 : 0 ≤ N) (h1 : N ≤ 1000000) :
    Calls Tryd.prog 45 #[.pointer (some ⟨t, 0, none⟩)] w (SeekR (st.take N.toNat) N true w) := by
  obtain ⟨L, hT, he, hk⟩ := h.ex
  obtain ⟨P, r, ver, hP, hch, hn, ht, hPS, hSt⟩ := tree_pages hT
  cases P with
  | nil =>
    have hst : st = [] := by rw [← he, ← hP]; rfl
    subst hst
    refine (seekFirst_none ht hE).mono fun y w1 h1 => ?_
    rw [List.take_nil]
    exact seekR_none hE h1
  | cons p B =>
    obtain ⟨q, es⟩ := p
    have h1e : 1 ≤ es.length := hn (q, es) (by simp)
    obtain ⟨rest, hq⟩ := chain_at (A := []) hch
    refine (seekFirst_some hq (List.getElem?_eq_getElem (by omega)) ht).mono ?_
    rintro y w1 ⟨b, rfl, hen, hlo, hb⟩
    refine ⟨_, _, rfl, hb, fun w2 hb2 => ?_⟩
    have hb02 := up_below' hb hb2
    have hno : ∀ k, k < w.heap.size → ¬ k = b := fun k hk e => by omega
    have hcF : Chg (fun _ => False) w w2 := Chg.of_below hb02
    have hat : AtN ((q, es) :: B) w1 b t ver E 0 := .at_ (A := []) (i := 0) rfl (by omega) hen
    refine (walk_on (g := 0) (by omega) h0 h1 (chain_chg hch hcF (fun _ _ h => h)) hn (fun p hp => hno _ (chain_lt hch p hp)) (ht.chg hcF id) (hno t (lt_of_heap ht)) (hE.below hb02) (hno _ hE.lt) (hat.chg (Chg.of_below (S := fun _ => False) hb2) id) (Nat.lt_of_lt_of_le (enum_lt hat) hb2.size) (tr_outs (by rw [hP]; exact hk) hb02 (fun k hk => hno k (h.data k hk).1))).mono ?_
    intro y w' h2
    refine h2.ans hb02.size hlo ?_
    rw [List.drop_zero, hP, he]

theorem tr_last (h : TrX dsc n t st M D w) {E : Value} (hE : HasEof w E) {N : Int} (h0 : 0 ≤ N) (h1 : N ≤ 1000000) :
    Calls Tryd.prog 47 #[.pointer (some ⟨t, 0, none⟩)] w (SeekR (st.reverse.take N.toNat) N false w) := by
  obtain ⟨L, hT, he, hk⟩ := h.ex
  obtain ⟨P, r, ver, hP, hch, hn, ht, hPS, hSt⟩ := tree_pages hT
  rcases List.eq_nil_or_concat P with hPn | ⟨A, ⟨q, es⟩, hPc⟩
  · subst hPn
    have hst : st = [] := by rw [← he, ← hP]; rfl
    subst hst
    refine (seekLast_none ht hE).mono fun y w1 h1 => ?_
    rw [List.reverse_nil, List.take_nil]
    exact seekR_none hE h1
  · have hPc' : P = A ++ [(q, es)] := by simpa using hPc
    subst hPc'
    have h1e : 1 ≤ es.length := hn (q, es) (by simp)
    obtain ⟨j, hj⟩ : ∃ j, es.length = j + 1 := ⟨es.length - 1, by omega⟩
    obtain ⟨rest, hq⟩ := chain_at (A := A) (B := []) hch
    have hl : lastp (.pointer none) (A ++ [(q, es)]) = ptr q := by rw [lastp_append]; rfl
    have ht2 := ht
    rw [hl] at ht2
    refine (seekLast_some hq hj (List.getElem?_eq_getElem (by omega)) ht2).mono ?_
    rintro y w1 ⟨b, rfl, hen, hlo, hb⟩
    refine ⟨_, _, rfl, hb, fun w2 hb2 => ?_⟩
    have hb02 := up_below' hb hb2
    have hno : ∀ k, k < w.heap.size → ¬ k = b := fun k hk e => by omega
    have hcF : Chg (fun _ => False) w w2 := Chg.of_below hb02
    have hen2 : (ents (A ++ [(q, es)])).length = (ents A).length + j + 1 := by rw [ents_append]; simp [ents]; omega
    have hat : AtP (A ++ [(q, es)]) w1 b t ver E (ents (A ++ [(q, es)])).length := by
      rw [hen2]
      exact .at_ (A := A) (B := []) (i := j) rfl (by omega) hen
    refine (walk_back (g := (ents (A ++ [(q, es)])).length) (Nat.le_refl _) h0 h1 (chain_chg hch hcF (fun _ _ h => h)) hn (fun p hp => hno _ (chain_lt hch p hp)) (ht.chg hcF id) (hno t (lt_of_heap ht)) (hE.below hb02) (hno _ hE.lt) (hat.chg (Chg.of_below (S := fun _ => False) hb2) id) (Nat.lt_of_lt_of_le (enum_ltP hat) hb2.size) (tr_outs (by rw [hP]; exact hk) hb02 (fun k hk => hno k (h.data k hk).1))).mono ?_
    intro y w' h2
    refine h2.ans hb02.size hlo ?_
    rw [List.take_length, hP, List.map_reverse, he]

/-- The pairs from a place on, or back. -/
def seekPs (st : List PR) (g : Nat) (N : Int) : List PR := if 0 < N then (st.drop g).take N.toNat else if g < st.length then (st.take (g + 1)).reverse.take (-N).toNat else []

def SeekS (hit : Bool) (ps : List PR) (N : Int) (w : World) (y : Ending) (w1 : World) : Prop := ∃ it, y = .returned (.tuple #[it, .bool hit]) ∧ TSeekG ps (if 0 < N then N else -N) (decide (0 < N)) hit w it .nilIface w1

theorem tr_seek (h : TrX dsc n t st M D w) (hn : n ≤ 1000) {K : List VV} {A : Option Addr} {c : Nat} {vs : List Value} (hK : InsD D w K A vs) (hcK : ConcL K) (hl : K.length = n) {E : Value} (hE : HasEof w E) {N : Int} (h0 : -1000000 ≤ N) (h1 : N ≤ 1000000) :
    Calls Tryd.prog 48 #[.pointer (some ⟨t, 0, none⟩), .slice A K.length c] w (SeekS (thereP dsc K st) (seekPs st (placeP dsc K st) N) N w) := by
  obtain ⟨L, hT, he, hk⟩ := h.ex
  have hlen : L.length = st.length := by rw [← he]; simp
  have hl9 := h.len
  have hp := h.ok.pos hl
  have ha := TrX.asks (dsc := dsc) (c := c) hn he hk h.ok.len hK hcK hl
  rw [← hlen] at hp
  refine (seek_any t L M E A _ c _ _ _ w hT (by omega) ha hp).mono ?_
  rintro y w1 ⟨b, P, r, ver, rfl, hlo, hb, hP, hch, hnp, ht, hPS, hSt, hatN, hatP⟩
  refine ⟨_, rfl, hb, fun w2 hb2 => ?_⟩
  have hb02 := up_below' hb hb2
  have hno : ∀ k, k < w.heap.size → ¬ k = b := fun k hk e => by omega
  have hcF : Chg (fun _ => False) w w2 := Chg.of_below hb02
  have hPl : (ents P).length = st.length := by rw [hP, hlen]
  have hgl := hp.le
  have hD := tr_outs (L := ents P) (b := b) (by rw [hP]; exact hk) hb02 (fun k hk => hno k (h.data k hk).1)
  have cc := chain_chg hch hcF (fun _ _ h => h)
  have hpb : ∀ p ∈ P, ¬ p.1 = b := fun p hp => hno _ (chain_lt hch p hp)
  have ct := ht.chg hcF id
  have htb := hno t (lt_of_heap ht)
  have ce := hE.below hb02
  have hbE := hno _ hE.lt
  have lb := Nat.lt_of_lt_of_le (enum_lt hatN) hb2.size
  have hN2 := hatN.chg (Chg.of_below (S := fun _ => False) hb2) id
  have hP2 := hatP.chg (Chg.of_below (S := fun _ => False) hb2) id
  unfold seekPs
  by_cases hN : 0 < N
  · rw [if_pos hN, if_pos hN, decide_eq_true hN]
    refine (walk_on (by omega) (by omega) h1 cc hnp hpb ct htb ce hbE hN2 lb hD).mono fun y w' h2 => h2.ans hb02.size hlo ?_
    rw [List.map_drop, hP, he]
  · rw [if_neg hN, if_neg hN, decide_eq_false hN]
    by_cases hg : placeP dsc K st < st.length
    · rw [if_pos hg]
      refine (walk_back (g := placeP dsc K st + 1) (by omega) (by omega) (by omega) cc hnp hpb ct htb ce hbE hP2 lb hD).mono fun y w' h2 => h2.ans hb02.size hlo ?_
      rw [List.map_reverse, List.map_take, hP, he]
    · rw [if_neg hg]
      have e1 : placeP dsc K st + 1 = (ents P).length + 1 := by omega
      rw [e1] at hP2
      exact (walk_off (by omega) (by omega) cc hnp hpb ct htb ce hbE hP2 lb).mono fun y w' h2 => h2.ans hb02.size hlo List.take_nil
end

end Go.Proofs.YtffgkocokkhahaaDoor

/- impl.treeDeed: set, get, delete, clear. PRINTED BY wip/tpl/gen_ytd.py. -/
namespace Go.Proofs.YtffgkocokkhahaaDoor
open Go.RowKit

/-- What a deed tells, and the tree behind it. -/
def TDeedP (dsc : Bool) (n t : Nat) (st : List PR) (x : TD) (M D : Nat → Prop) (w : World) (y : Ending) (w' : World) : Prop :=
  ∃ (a : TAV) (M' D' : Nat → Prop), y = .returned (.agg #[.bool a.is, .int .i64 a.n, .slice a.R a.us.length a.c, .slice a.P a.rs.length a.pc]) ∧ TSays a (ansT dsc st x) ∧ TAnsIn D' w' a ∧ TrX dsc n t (nxtT dsc st x) M' D' w' ∧ Chg M w w' ∧ (∀ k, D k → D' k) ∧ (∀ k, M' k → M k ∨ w.heap.size ≤ k) ∧ ∀ k, D' k → D k ∨ w.heap.size ≤ k

theorem below_al2' (w : World) (a b : Obj) : Below w.heap.size w ((w.alloc a).alloc b) := ((Below.refl _ _).alloc (Nat.le_refl _) _).alloc (by simp) _

section
variable {dsc : Bool} {n t : Nat} {st : List PR} {M D : Nat → Prop} {w w1 w2 w3 W : World}

theorem tr_add (h : TrX dsc n t st M D w) (hb : Below w.heap.size w w1) : TrX dsc n t st M (fun k => D k ∨ (w.heap.size + 2 ≤ k ∧ k < w1.heap.size)) w1 :=
  (h.below hb).more (fun k h => .inl h) (fun k hk => by
    rcases hk with hk | hk
    · exact ⟨Nat.lt_of_lt_of_le (h.data k hk).1 hb.size, (h.data k hk).2⟩
    · exact ⟨hk.2, fun hM => by have := h.lt hM; omega⟩)

/-- A deed that changes the tree alone. -/
theorem write_fin {x : TD} {M' : Nat → Prop} {a : TAV} (h : TrX dsc n t st M D w) (hb1 : Below w.heap.size w w1) (hX : TrX dsc n t (nxtT dsc st x) M' (fun k => D k ∨ (w.heap.size + 2 ≤ k ∧ k < w1.heap.size)) w2) (hc2 : Chg M w1 w2) (hM2 : ∀ k, M' k → M k ∨ w1.heap.size ≤ k) (hs1 : w.heap.size + 2 ≤ w1.heap.size) (hW : Chg (fun k => k = w.heap.size + 1) w2 W)
    (hsay : TSays a (ansT dsc st x)) (hu : a.us = []) (hr : a.rs = []) (hR : a.R = none) (hP : a.P = none) :
    TDeedP dsc n t st x M D w (.returned (.agg #[.bool a.is, .int .i64 a.n, .slice a.R a.us.length a.c, .slice a.P a.rs.length a.pc])) W := by
  refine ⟨a, M', fun k => D k ∨ (w.heap.size + 2 ≤ k ∧ k < w1.heap.size), rfl, hsay, ⟨?_, ?_⟩, hX.chg hW (fun k hk e => ?_) (fun k hk e => ?_), ?_, fun k h => .inl h, fun k hk => (hM2 k hk).imp id (fun h => by omega), fun k hk => hk.imp id (fun h => by omega)⟩
  · rw [hu, hR]; exact ValsIn.nil _ _
  · rw [hr, hP]; exact PairsIn.nil _ _
  · rcases hM2 k hk with h1 | h1
    · have := h.lt h1; omega
    · omega
  · rcases hk with h1 | h1
    · have := (h.data k h1).1; omega
    · omega
  · exact ((Chg.of_below hb1).next hc2 (fun k _ h => h)).next hW (fun k h e => by omega)

/-- A deed that only reads. -/
theorem read_fin {x : TD} {a : TAV} (h : TrX dsc n t st M D w) (hn : nxtT dsc st x = st) (hb : Below w.heap.size w W) (hsay : TSays a (ansT dsc st x)) (hi : TAnsIn (fun z => w.heap.size ≤ z ∧ z < W.heap.size) W a) :
    TDeedP dsc n t st x M D w (.returned (.agg #[.bool a.is, .int .i64 a.n, .slice a.R a.us.length a.c, .slice a.P a.rs.length a.pc])) W := by
  refine ⟨a, M, fun k => D k ∨ (w.heap.size ≤ k ∧ k < W.heap.size), rfl, hsay, hi.mono (fun k h => .inr h), ?_, Chg.of_below hb, fun k h => .inl h, fun k h => .inl h, fun k hk => hk.imp id (fun h => h.1)⟩
  rw [hn]
  refine (h.below hb).more (fun k h => .inl h) (fun k hk => ?_)
  rcases hk with hk | hk
  · exact ⟨Nat.lt_of_lt_of_le (h.data k hk).1 hb.size, (h.data k hk).2⟩
  · exact ⟨hk.2, fun hM => by have := h.lt hM; omega⟩

theorem below_fin (hb : Below w.heap.size w w1) (hW : Chg (fun k => k = w.heap.size + 1) w1 W) : Below w.heap.size w W :=
  hb.trans (hW.below hb.size (fun k e => by rw [e]; omega))

/-- What comes out of a list of values. -/
def OutsV (l : List VV) (w : World) (y : Ending) (w' : World) : Prop :=
  ∃ A c us, y = .returned (.slice A us.length c) ∧ OutL l us ∧ ValsIn (fun k => w.heap.size ≤ k ∧ k < w'.heap.size) w' A us ∧ Below w.heap.size w w'
theorem HeldV.outsV {l : List VV} {v : Value} (h : HeldV D w l v) : Calls Tryd.prog 39 #[v] w (OutsV l w) := by
  refine h.outs.mono ?_
  rintro y w' ⟨A, c, us, rfl, ho, hl, hu, hb⟩
  rw [← hl] at ho ⊢
  exact ⟨A, c, us, rfl, ⟨hl, hu⟩, ValsIn.own ho, hb⟩
theorem ValsIn.up {A : Option Addr} {us : List VV} {lo : Nat} (h : ValsIn (fun k => lo ≤ k ∧ k < w1.heap.size) w1 A us) (hlo : w.heap.size + 2 ≤ lo) (hW : Chg (fun k => k = w.heap.size + 1) w1 W) : ValsIn (fun z => w.heap.size ≤ z ∧ z < W.heap.size) W A us :=
  (h.chg hW (fun k hk e => by omega)).mono (fun k hk => ⟨by omega, Nat.lt_of_lt_of_le hk.2 hW.size⟩)
theorem PairsIn.up {P : Option Addr} {rs : List PairV} {lo : Nat} (h : PairsIn (fun k => lo ≤ k ∧ k < w1.heap.size) w1 P rs) (hlo : w.heap.size + 2 ≤ lo) (hW : Chg (fun k => k = w.heap.size + 1) w1 W) : PairsIn (fun z => w.heap.size ≤ z ∧ z < W.heap.size) W P rs :=
  (h.chg hW (fun k hk e => by omega)).mono (fun k hk => ⟨by omega, Nat.lt_of_lt_of_le hk.2 hW.size⟩)

/-- What Get tells. -/
def GetQ (dsc : Bool) (K : List VV) (st : List PR) (D : Nat → Prop) (w : World) (y : Ending) (w' : World) : Prop :=
  ∃ l v, y = .returned (.tuple #[v, .bool (thereP dsc K st)]) ∧ HeldV D w' l v ∧ (thereP dsc K st = true → (st[placeP dsc K st]?).map PR.v = some l) ∧ Below w.heap.size w w'
end

end Go.Proofs.YtffgkocokkhahaaDoor

/- impl.treeDeed: get. PRINTED BY wip/tpl/gen_ytd.py. -/
namespace Go.Proofs.YtffgkocokkhahaaDoor
open Go.RowKit

set_option maxRecDepth 100000 in
set_option maxHeartbeats 3200000 in
theorem deed_get {dsc : Bool} {n t : Nat} {st : List PR} {M D : Nat → Prop} {w : World} (h : TrX dsc n t st M D w) {K V : List VV} {A B : Option Addr} {c d : Nat} {N : Int} (hn : n ≤ 1000) (hA : LAt w A K) (hcK : ConcL K) (hl : K.length = n) :
    Calls Tryd.prog 22 #[.pointer (some ⟨t, 0, none⟩), .agg #[.string ⟨#[103, 101, 116]⟩, .slice A K.length c, .slice B V.length d, .int .i64 N]] w (TDeedP dsc n t st ⟨.get, K, V, N⟩ M D w) := by
  have HX := Lib.hid h
  have HI : Hid (∀ w', Below w.heap.size w w' → Calls Tryd.prog 29 #[.slice A K.length c] w' (InsPD K w')) := Lib.hid (fun w' hb => insPD_all K A c w' (hA.below hb) hcK.good (by omega))
  have HG : Hid (∀ (E : Nat → Prop) (w' : World) (A' : Option Addr) (c' : Nat) (vs : List Value), TrX dsc n t st M E w' → InsD E w' K A' vs → Calls Tryd.prog 38 #[.pointer (some ⟨t, 0, none⟩), .slice A' K.length c'] w' (GetQ dsc K st E w')) := Lib.hid (fun E w' A' c' vs hx hi => (tr_get hx hn hi hcK hl).mono (by
    rintro y w'' ⟨l, v, rfl, h1, h2, h3⟩
    exact ⟨l, v, rfl, h1.chg (Chg.of_below (S := fun _ => False) h3) (fun _ _ h => h), h2, h3⟩))
  clear h hn hA hcK hl
  go_enter Tryd.func22, Tryd.ntmps22
  go_wp2_with (first
    | (go_at_call 29
       refine (HI.out _ (below_al2 w _ _)).mono ?_
       rintro y w1 ⟨A1, c1, vs, rfl, hb1, hi1⟩
       have HK1 : Hid (w1.heap[w.heap.size]? = some (.cells #[.string ⟨#[103, 101, 116]⟩, .slice A K.length c, .slice B V.length d, .int .i64 N] 27 (0, 0))) := Lib.hid (heap_below ((heap_alloc_ne _ _ _ (by simp)).trans (heap_new w _)) hb1)
       have HR1 : Hid (w1.heap[w.heap.size + 1]? = some (.cells #[.bool false, .int .i64 0, .slice none 0 0, .slice none 0 0] 35 (0, 0))) := Lib.hid (heap_below (by have := heap_new (w.alloc (.cells #[.string ⟨#[103, 101, 116]⟩, .slice A K.length c, .slice B V.length d, .int .i64 N] 27)) (.cells #[.bool false, .int .i64 0, .slice none 0 0, .slice none 0 0] 35); simpa using this) hb1)
       have HB1 : Hid (Below w.heap.size w w1) := Lib.hid (up_below (below_al2 w _ _) (Nat.le_refl _) hb1)
       have hs1 : w.heap.size + 2 ≤ w1.heap.size := lt_of_heap HR1.out
       have HX1 := Lib.hid (tr_add HX.out HB1.out)
       have HI1 := Lib.hid (hi1.mono (E := fun k => D k ∨ (w.heap.size + 2 ≤ k ∧ k < w1.heap.size)) (fun k h => .inr ⟨by have := h.1; simp at this; omega, h.2⟩))
       have k3 := cell_of_heap HK1.out 3
       clear hi1 hb1)
    | (go_at_call 38
       refine (HG.out _ _ A1 c1 vs HX1.out HI1.out).mono ?_
       rintro y w2 ⟨l, v, rfl, hv2, hl2, hb2⟩
       have HV2 := Lib.hid hv2
       have HL2 := Lib.hid hl2
       have HK2 := Lib.hid (heap_below HK1.out hb2)
       have HR2 := Lib.hid (heap_below HR1.out hb2)
       have HB2 : Hid (Below w.heap.size w w2) := Lib.hid (up_below HB1.out (Nat.le_refl _) hb2)
       have hs2 : w.heap.size + 2 ≤ w2.heap.size := lt_of_heap HR2.out
       clear hv2 hl2 hb2)
    | (go_at_call 39
       refine HV2.out.outsV.mono ?_
       rintro y w3 ⟨A3, c3, us, rfl, ho3, hv3, hb3⟩
       have HO3 := Lib.hid ho3
       have HV3 := Lib.hid hv3
       have HK3 := Lib.hid (heap_below HK2.out hb3)
       have HR3 := Lib.hid (heap_below HR2.out hb3)
       have HB3 : Hid (Below w.heap.size w w3) := Lib.hid (up_below HB2.out (Nat.le_refl _) hb3)
       have hs3 : w.heap.size + 2 ≤ w3.heap.size := lt_of_heap HR3.out
       have r0 := cell_of_heap HR3.out 0
       have f0 := free_of_heap HR3.out 0
       have r1 := cell_of_heap HR3.out 1
       have f1 := free_of_heap HR3.out 1
       have r2 := cell_of_heap HR3.out 2
       have f2 := free_of_heap HR3.out 2
       have r3 := cell_of_heap HR3.out 3
       have f3 := free_of_heap HR3.out 3
       clear ho3 hv3 hb3))
  obtain ⟨W, hW⟩ : ∃ W, W = (((w3.setCell ⟨w.heap.size + 1, 0, none⟩ (.bool (thereP dsc K st))).setCell ⟨w.heap.size + 1, 1, none⟩ (.int .i64 0)).setCell ⟨w.heap.size + 1, 2, none⟩ (.slice A3 us.length c3)).setCell ⟨w.heap.size + 1, 3, none⟩ (.slice none 0 0) := ⟨_, rfl⟩
  rw [← hW]
  have hh : W.heap[w.heap.size + 1]? = some (.cells #[.bool (thereP dsc K st), .int .i64 0, .slice A3 us.length c3, .slice none 0 0] 35 (0, 0)) := by rw [hW, heap_setCell_at, heap_setCell_at, heap_setCell_at, heap_setCell_at, HR3.out]; rfl
  have d0 : W.cell? ⟨w.heap.size + 1, 0, none⟩ = some (.bool (thereP dsc K st)) := cell_of_heap hh 0
  have d1 : W.cell? ⟨w.heap.size + 1, 1, none⟩ = some (.int .i64 0) := cell_of_heap hh 1
  have d2 : W.cell? ⟨w.heap.size + 1, 2, none⟩ = some (.slice A3 us.length c3) := cell_of_heap hh 2
  have d3 : W.cell? ⟨w.heap.size + 1, 3, none⟩ = some (.slice none 0 0) := cell_of_heap hh 3
  have hc : Chg (fun k => k = w.heap.size + 1) w3 W := hW ▸ ((((Chg.refl (fun k => k = w.heap.size + 1) w3).setCell (p := ⟨w.heap.size + 1, _, none⟩) (.inl rfl) _).setCell (p := ⟨w.heap.size + 1, _, none⟩) (.inl rfl) _).setCell (p := ⟨w.heap.size + 1, _, none⟩) (.inl rfl) _).setCell (p := ⟨w.heap.size + 1, _, none⟩) (.inl rfl) _
  refine bodyPost_ret (v := .agg #[.bool (thereP dsc K st), .int .i64 0, .slice A3 us.length c3, .slice none 0 0]) (by simp [results, Tryd.results22, go_sem, d0, d1, d2, d3]) rfl ?_
  have hsay : TSays ⟨thereP dsc K st, 0, A3, c3, us, none, 0, []⟩ (ansT dsc st ⟨.get, K, V, N⟩) := by
    refine ⟨fun b e => ?_, fun m e => (by cases e), fun l' e => ?_, fun m e => (by cases e)⟩
    · exact Option.some.inj e
    · have e2 : (if thereP dsc K st then (st[placeP dsc K st]?).map PR.v else none) = some l' := e
      split at e2
      · rename_i hth
        rw [HL2.out hth] at e2
        obtain rfl := Option.some.inj e2
        exact HO3.out
      · cases e2
  exact read_fin HX.out rfl (below_fin HB3.out hc) hsay ⟨HV3.out.up hs2 hc, PairsIn.nil _ _⟩

end Go.Proofs.YtffgkocokkhahaaDoor

/- impl.treeDeed: delete. PRINTED BY wip/tpl/gen_ytd.py. -/
namespace Go.Proofs.YtffgkocokkhahaaDoor
open Go.RowKit

set_option maxRecDepth 100000 in
set_option maxHeartbeats 3200000 in
theorem deed_delete {dsc : Bool} {n t : Nat} {st : List PR} {M D : Nat → Prop} {w : World} (h : TrX dsc n t st M D w) {K V : List VV} {A B : Option Addr} {c d : Nat} {N : Int} (hn : n ≤ 1000) (hA : LAt w A K) (hcK : ConcL K) (hl : K.length = n) :
    Calls Tryd.prog 22 #[.pointer (some ⟨t, 0, none⟩), .agg #[.string ⟨#[100, 101, 108, 101, 116, 101]⟩, .slice A K.length c, .slice B V.length d, .int .i64 N]] w (TDeedP dsc n t st ⟨.delete, K, V, N⟩ M D w) := by
  have HX := Lib.hid h
  have HI : Hid (∀ w', Below w.heap.size w w' → Calls Tryd.prog 29 #[.slice A K.length c] w' (InsPD K w')) := Lib.hid (fun w' hb => insPD_all K A c w' (hA.below hb) hcK.good (by omega))
  have HG : Hid (∀ (E : Nat → Prop) (w' : World) (A' : Option Addr) (c' : Nat) (vs : List Value), TrX dsc n t st M E w' → InsD E w' K A' vs → Calls Tryd.prog 40 #[.pointer (some ⟨t, 0, none⟩), .slice A' K.length c'] w' fun y w'' => y = .returned (.bool (thereP dsc K st)) ∧ ∃ M', TrX dsc n t (nxtT dsc st ⟨.delete, K, V, N⟩) M' E w'' ∧ Chg M w' w'' ∧ ∀ k, M' k → M k ∨ w'.heap.size ≤ k) := Lib.hid (fun E w' A' c' vs hx hi => tr_delete hx hn hi hcK hl)
  clear h hn hA hcK hl
  go_enter Tryd.func22, Tryd.ntmps22
  go_wp2_with (first
    | (go_at_call 29
       refine (HI.out _ (below_al2 w _ _)).mono ?_
       rintro y w1 ⟨A1, c1, vs, rfl, hb1, hi1⟩
       have HK1 : Hid (w1.heap[w.heap.size]? = some (.cells #[.string ⟨#[100, 101, 108, 101, 116, 101]⟩, .slice A K.length c, .slice B V.length d, .int .i64 N] 27 (0, 0))) := Lib.hid (heap_below ((heap_alloc_ne _ _ _ (by simp)).trans (heap_new w _)) hb1)
       have HR1 : Hid (w1.heap[w.heap.size + 1]? = some (.cells #[.bool false, .int .i64 0, .slice none 0 0, .slice none 0 0] 35 (0, 0))) := Lib.hid (heap_below (by have := heap_new (w.alloc (.cells #[.string ⟨#[100, 101, 108, 101, 116, 101]⟩, .slice A K.length c, .slice B V.length d, .int .i64 N] 27)) (.cells #[.bool false, .int .i64 0, .slice none 0 0, .slice none 0 0] 35); simpa using this) hb1)
       have HB1 : Hid (Below w.heap.size w w1) := Lib.hid (up_below (below_al2 w _ _) (Nat.le_refl _) hb1)
       have hs1 : w.heap.size + 2 ≤ w1.heap.size := lt_of_heap HR1.out
       have HX1 := Lib.hid (tr_add HX.out HB1.out)
       have HI1 := Lib.hid (hi1.mono (E := fun k => D k ∨ (w.heap.size + 2 ≤ k ∧ k < w1.heap.size)) (fun k h => .inr ⟨by have := h.1; simp at this; omega, h.2⟩))
       have k3 := cell_of_heap HK1.out 3
       clear hi1 hb1)
    | (go_at_call 40
       refine (HG.out _ _ A1 c1 vs HX1.out HI1.out).mono ?_
       rintro y w2 ⟨rfl, M', hx2, hc2, hm2⟩
       have HX2 := Lib.hid hx2
       have HC2 := Lib.hid hc2
       have HM2 := Lib.hid hm2
       have HR2 := Lib.hid (heap_chg HR1.out hc2 (fun hM => absurd (HX.out.lt hM) (by omega)))
       have r0 := cell_of_heap HR2.out 0
       have f0 := free_of_heap HR2.out 0
       have r1 := cell_of_heap HR2.out 1
       have f1 := free_of_heap HR2.out 1
       have r2 := cell_of_heap HR2.out 2
       have f2 := free_of_heap HR2.out 2
       have r3 := cell_of_heap HR2.out 3
       have f3 := free_of_heap HR2.out 3
       clear hx2 hc2 hm2))
  obtain ⟨W, hW⟩ : ∃ W, W = (((w2.setCell ⟨w.heap.size + 1, 0, none⟩ (.bool (thereP dsc K st))).setCell ⟨w.heap.size + 1, 1, none⟩ (.int .i64 0)).setCell ⟨w.heap.size + 1, 2, none⟩ (.slice none 0 0)).setCell ⟨w.heap.size + 1, 3, none⟩ (.slice none 0 0) := ⟨_, rfl⟩
  rw [← hW]
  have hh : W.heap[w.heap.size + 1]? = some (.cells #[.bool (thereP dsc K st), .int .i64 0, .slice none 0 0, .slice none 0 0] 35 (0, 0)) := by rw [hW, heap_setCell_at, heap_setCell_at, heap_setCell_at, heap_setCell_at, HR2.out]; rfl
  have d0 : W.cell? ⟨w.heap.size + 1, 0, none⟩ = some (.bool (thereP dsc K st)) := cell_of_heap hh 0
  have d1 : W.cell? ⟨w.heap.size + 1, 1, none⟩ = some (.int .i64 0) := cell_of_heap hh 1
  have d2 : W.cell? ⟨w.heap.size + 1, 2, none⟩ = some (.slice none 0 0) := cell_of_heap hh 2
  have d3 : W.cell? ⟨w.heap.size + 1, 3, none⟩ = some (.slice none 0 0) := cell_of_heap hh 3
  have hc : Chg (fun k => k = w.heap.size + 1) w2 W := hW ▸ ((((Chg.refl (fun k => k = w.heap.size + 1) w2).setCell (p := ⟨w.heap.size + 1, _, none⟩) (.inl rfl) _).setCell (p := ⟨w.heap.size + 1, _, none⟩) (.inl rfl) _).setCell (p := ⟨w.heap.size + 1, _, none⟩) (.inl rfl) _).setCell (p := ⟨w.heap.size + 1, _, none⟩) (.inl rfl) _
  refine bodyPost_ret (v := .agg #[.bool (thereP dsc K st), .int .i64 0, .slice none 0 0, .slice none 0 0]) (by simp [results, Tryd.results22, go_sem, d0, d1, d2, d3]) rfl ?_
  have hsay : TSays ⟨thereP dsc K st, 0, none, 0, [], none, 0, []⟩ (ansT dsc st ⟨.delete, K, V, N⟩) := ⟨fun b e => Option.some.inj e, fun m e => (by cases e), fun m e => (by cases e), fun m e => (by cases e)⟩
  exact write_fin HX.out HB1.out HX2.out HC2.out HM2.out hs1 hc hsay rfl rfl rfl rfl

end Go.Proofs.YtffgkocokkhahaaDoor

/- impl.treeDeed: clear. PRINTED BY wip/tpl/gen_ytd.py. -/
namespace Go.Proofs.YtffgkocokkhahaaDoor
open Go.RowKit

set_option maxRecDepth 100000 in
set_option maxHeartbeats 3200000 in
theorem deed_clear {dsc : Bool} {n t : Nat} {st : List PR} {M D : Nat → Prop} {w : World} (h : TrX dsc n t st M D w) {K V : List VV} {A B : Option Addr} {c d : Nat} {N : Int} :
    Calls Tryd.prog 22 #[.pointer (some ⟨t, 0, none⟩), .agg #[.string ⟨#[99, 108, 101, 97, 114]⟩, .slice A K.length c, .slice B V.length d, .int .i64 N]] w (TDeedP dsc n t st ⟨.clear, K, V, N⟩ M D w) := by
  have HX := Lib.hid h
  have HC : Hid (∀ (E : Nat → Prop) (w' : World), TrX dsc n t st M E w' → Calls Tryd.prog 41 #[.pointer (some ⟨t, 0, none⟩)] w' (SetQ dsc n t (nxtT dsc st ⟨.clear, K, V, N⟩) M E w')) := Lib.hid (fun E w' hx => tr_clear hx)
  clear h
  go_enter Tryd.func22, Tryd.ntmps22
  go_wp2_with fail
  obtain ⟨W0, hW0⟩ : ∃ W0, W0 = (w.alloc (.cells #[.string ⟨#[99, 108, 101, 97, 114]⟩, .slice A K.length c, .slice B V.length d, .int .i64 N] 27)).alloc (.cells #[.bool false, .int .i64 0, .slice none 0 0, .slice none 0 0] 35) := ⟨_, rfl⟩
  rw [← hW0]
  have HK0 : Hid (W0.heap[w.heap.size]? = some (.cells #[.string ⟨#[99, 108, 101, 97, 114]⟩, .slice A K.length c, .slice B V.length d, .int .i64 N] 27 (0, 0))) := Lib.hid (by rw [hW0]; exact (heap_alloc_ne _ _ _ (by simp)).trans (heap_new w _))
  have HR0 : Hid (W0.heap[w.heap.size + 1]? = some (.cells #[.bool false, .int .i64 0, .slice none 0 0, .slice none 0 0] 35 (0, 0))) := Lib.hid (by rw [hW0]; have := heap_new (w.alloc (.cells #[.string ⟨#[99, 108, 101, 97, 114]⟩, .slice A K.length c, .slice B V.length d, .int .i64 N] 27)) (.cells #[.bool false, .int .i64 0, .slice none 0 0, .slice none 0 0] 35); simpa using this)
  have HB0 : Hid (Below w.heap.size w W0) := Lib.hid (hW0 ▸ below_al2' w _ _)
  have hs0 : W0.heap.size = w.heap.size + 2 := by rw [hW0]; simp
  have j1 := cell_of_heap HK0.out 1
  have j2 := cell_of_heap HK0.out 2
  have j3 := cell_of_heap HK0.out 3
  have HX0 := Lib.hid (tr_add HX.out HB0.out)
  clear hW0
  go_wp2_with (first
    | (go_at_call 41
       refine (HC.out _ _ HX0.out).mono ?_
       rintro y w2 ⟨rfl, M', hx2, hc2, hm2⟩
       have HX2 := Lib.hid hx2
       have HC2 := Lib.hid hc2
       have HM2 := Lib.hid hm2
       have HR2 := Lib.hid (heap_chg HR0.out hc2 (fun hM => absurd (HX.out.lt hM) (by omega)))
       have r0 := cell_of_heap HR2.out 0
       have f0 := free_of_heap HR2.out 0
       have r1 := cell_of_heap HR2.out 1
       have f1 := free_of_heap HR2.out 1
       have r2 := cell_of_heap HR2.out 2
       have f2 := free_of_heap HR2.out 2
       have r3 := cell_of_heap HR2.out 3
       have f3 := free_of_heap HR2.out 3
       clear hx2 hc2 hm2))
  obtain ⟨W, hW⟩ : ∃ W, W = (((w2.setCell ⟨w.heap.size + 1, 0, none⟩ (.bool false)).setCell ⟨w.heap.size + 1, 1, none⟩ (.int .i64 0)).setCell ⟨w.heap.size + 1, 2, none⟩ (.slice none 0 0)).setCell ⟨w.heap.size + 1, 3, none⟩ (.slice none 0 0) := ⟨_, rfl⟩
  rw [← hW]
  have hh : W.heap[w.heap.size + 1]? = some (.cells #[.bool false, .int .i64 0, .slice none 0 0, .slice none 0 0] 35 (0, 0)) := by rw [hW, heap_setCell_at, heap_setCell_at, heap_setCell_at, heap_setCell_at, HR2.out]; rfl
  have d0 : W.cell? ⟨w.heap.size + 1, 0, none⟩ = some (.bool false) := cell_of_heap hh 0
  have d1 : W.cell? ⟨w.heap.size + 1, 1, none⟩ = some (.int .i64 0) := cell_of_heap hh 1
  have d2 : W.cell? ⟨w.heap.size + 1, 2, none⟩ = some (.slice none 0 0) := cell_of_heap hh 2
  have d3 : W.cell? ⟨w.heap.size + 1, 3, none⟩ = some (.slice none 0 0) := cell_of_heap hh 3
  have hc : Chg (fun k => k = w.heap.size + 1) w2 W := hW ▸ ((((Chg.refl (fun k => k = w.heap.size + 1) w2).setCell (p := ⟨w.heap.size + 1, _, none⟩) (.inl rfl) _).setCell (p := ⟨w.heap.size + 1, _, none⟩) (.inl rfl) _).setCell (p := ⟨w.heap.size + 1, _, none⟩) (.inl rfl) _).setCell (p := ⟨w.heap.size + 1, _, none⟩) (.inl rfl) _
  refine bodyPost_ret (v := .agg #[.bool false, .int .i64 0, .slice none 0 0, .slice none 0 0]) (by simp [results, Tryd.results22, go_sem, d0, d1, d2, d3]) rfl ?_
  have hsay : TSays ⟨false, 0, none, 0, [], none, 0, []⟩ (ansT dsc st ⟨.clear, K, V, N⟩) := ⟨fun b e => (by cases e), fun m e => (by cases e), fun m e => (by cases e), fun m e => (by cases e)⟩
  exact write_fin HX.out HB0.out HX2.out HC2.out HM2.out (by omega) hc hsay rfl rfl rfl rfl

end Go.Proofs.YtffgkocokkhahaaDoor

/- impl.treeDeed: set. PRINTED BY wip/tpl/gen_ytd.py. -/
namespace Go.Proofs.YtffgkocokkhahaaDoor
open Go.RowKit

set_option maxRecDepth 100000 in
set_option maxHeartbeats 3200000 in
theorem deed_set {dsc : Bool} {n t : Nat} {st : List PR} {M D : Nat → Prop} {w : World} (h : TrX dsc n t st M D w) {K V : List VV} {A B : Option Addr} {c d : Nat} {N : Int} (hn : n ≤ 1000) (hA : LAt w A K) (hcK : ConcL K) (hl : K.length = n) (hB : LAt w B V) (hcV : ConcL V) (hlV : V.length ≤ 1000) (h9 : st.length + 1 ≤ 1000) :
    Calls Tryd.prog 22 #[.pointer (some ⟨t, 0, none⟩), .agg #[.string ⟨#[115, 101, 116]⟩, .slice A K.length c, .slice B V.length d, .int .i64 N]] w (TDeedP dsc n t st ⟨.set, K, V, N⟩ M D w) := by
  have HX := Lib.hid h
  have HI : Hid (∀ w', Below w.heap.size w w' → Calls Tryd.prog 29 #[.slice A K.length c] w' (InsPD K w')) := Lib.hid (fun w' hb => insPD_all K A c w' (hA.below hb) hcK.good (by omega))
  have HJ : Hid (∀ w', Below w.heap.size w w' → Calls Tryd.prog 29 #[.slice B V.length d] w' (InsPD V w')) := Lib.hid (fun w' hb => insPD_all V B d w' (hB.below hb) hcV.good (by omega))
  have HC : Hid (∀ (E : Nat → Prop) (w' : World) (A' B' : Option Addr) (c' d' : Nat) (vs us : List Value), TrX dsc n t st M E w' → InsD E w' K A' vs → InsD E w' V B' us → Calls Tryd.prog 37 #[.pointer (some ⟨t, 0, none⟩), .slice A' K.length c', .slice B' V.length d'] w' (SetQ dsc n t (nxtT dsc st ⟨.set, K, V, N⟩) M E w')) := Lib.hid (fun E w' A' B' c' d' vs us hx hi hj => tr_set hx hn hi hj hcK hcV hl hlV h9)
  clear h hn hA hcK hl hB hcV hlV h9
  go_enter Tryd.func22, Tryd.ntmps22
  go_wp2_with fail
  obtain ⟨W0, hW0⟩ : ∃ W0, W0 = (w.alloc (.cells #[.string ⟨#[115, 101, 116]⟩, .slice A K.length c, .slice B V.length d, .int .i64 N] 27)).alloc (.cells #[.bool false, .int .i64 0, .slice none 0 0, .slice none 0 0] 35) := ⟨_, rfl⟩
  rw [← hW0]
  have HK0 : Hid (W0.heap[w.heap.size]? = some (.cells #[.string ⟨#[115, 101, 116]⟩, .slice A K.length c, .slice B V.length d, .int .i64 N] 27 (0, 0))) := Lib.hid (by rw [hW0]; exact (heap_alloc_ne _ _ _ (by simp)).trans (heap_new w _))
  have HR0 : Hid (W0.heap[w.heap.size + 1]? = some (.cells #[.bool false, .int .i64 0, .slice none 0 0, .slice none 0 0] 35 (0, 0))) := Lib.hid (by rw [hW0]; have := heap_new (w.alloc (.cells #[.string ⟨#[115, 101, 116]⟩, .slice A K.length c, .slice B V.length d, .int .i64 N] 27)) (.cells #[.bool false, .int .i64 0, .slice none 0 0, .slice none 0 0] 35); simpa using this)
  have HB0 : Hid (Below w.heap.size w W0) := Lib.hid (hW0 ▸ below_al2' w _ _)
  have hs0 : W0.heap.size = w.heap.size + 2 := by rw [hW0]; simp
  have j1 := cell_of_heap HK0.out 1
  have j2 := cell_of_heap HK0.out 2
  have j3 := cell_of_heap HK0.out 3
  clear hW0
  go_region_law
    (first
      | (go_simp; go_at_call_of 29 (Value.slice A K.length c)
         refine (HI.out _ (by first | exact HB0.out | exact HB0.out.drew)).mono ?_
         rintro y w1 ⟨A1, c1, vs, rfl, hb1', hi1⟩
         have hb1 : Below W0.heap.size W0 w1 := (by first | exact hb1' | exact ⟨hb1'.os, hb1'.tape, hb1'.output, hb1'.size, hb1'.block⟩)
         have HK1 := Lib.hid (heap_below HK0.out hb1)
         have HR1 := Lib.hid (heap_below HR0.out hb1)
         have HB1 : Hid (Below w.heap.size w w1) := Lib.hid (up_below HB0.out (Nat.le_refl _) hb1)
         have hs1 : w.heap.size + 2 ≤ w1.heap.size := lt_of_heap HR1.out
         have HI1 : Hid (InsD (fun k => w.heap.size + 2 ≤ k ∧ k < w1.heap.size) w1 K A1 vs) := Lib.hid (hi1.mono (fun k h => ⟨by have := h.1; rw [← hs0]; simpa using this, h.2⟩))
         have k2 := cell_of_heap HK1.out 2
         clear hi1 hb1 hb1')
      | (go_simp; go_at_call_of 29 (Value.slice B V.length d)
         refine (HJ.out _ HB1.out).mono ?_
         rintro y w3 ⟨A3, c3, us, rfl, hb3, hi3⟩
         have HB3 : Hid (Below w.heap.size w w3) := Lib.hid (up_below HB1.out (Nat.le_refl _) hb3)
         have HR3 := Lib.hid (heap_below HR1.out hb3)
         have hs3 : w.heap.size + 2 ≤ w3.heap.size := lt_of_heap HR3.out
         have HX3 := Lib.hid (tr_add HX.out HB3.out)
         have HI3 : Hid (InsD (fun k => D k ∨ (w.heap.size + 2 ≤ k ∧ k < w3.heap.size)) w3 K A1 vs) := Lib.hid ((HI1.out.chg (Chg.of_below (S := fun _ => False) hb3) (fun _ _ h => h)).mono (fun k h => .inr ⟨h.1, Nat.lt_of_lt_of_le h.2 hb3.size⟩))
         have HJ3 : Hid (InsD (fun k => D k ∨ (w.heap.size + 2 ≤ k ∧ k < w3.heap.size)) w3 V A3 us) := Lib.hid (hi3.mono (fun k h => .inr ⟨by omega, h.2⟩))
         clear hi3 hb3)
      | (go_simp; go_at_call 37
         refine (HC.out _ _ A1 A3 c1 c3 vs us HX3.out HI3.out HJ3.out).mono ?_
         rintro y w2 ⟨rfl, M', hx2, hc2, hm2⟩
         have HX2 := Lib.hid hx2
         have HC2 := Lib.hid hc2
         have HM2 := Lib.hid hm2
         have HR2 := Lib.hid (heap_chg HR3.out hc2 (fun hM => absurd (HX.out.lt hM) (by omega)))
         have r0 := cell_of_heap HR2.out 0
         have f0 := free_of_heap HR2.out 0
         have r1 := cell_of_heap HR2.out 1
         have f1 := free_of_heap HR2.out 1
         have r2 := cell_of_heap HR2.out 2
         have f2 := free_of_heap HR2.out 2
         have r3 := cell_of_heap HR2.out 3
         have f3 := free_of_heap HR2.out 3
         clear hx2 hc2 hm2))
  all_goals
    go_wp2
    obtain ⟨W, hW⟩ : ∃ W, W = (((w2.setCell ⟨w.heap.size + 1, 0, none⟩ (.bool false)).setCell ⟨w.heap.size + 1, 1, none⟩ (.int .i64 0)).setCell ⟨w.heap.size + 1, 2, none⟩ (.slice none 0 0)).setCell ⟨w.heap.size + 1, 3, none⟩ (.slice none 0 0) := ⟨_, rfl⟩
    rw [← hW]
    have hh : W.heap[w.heap.size + 1]? = some (.cells #[.bool false, .int .i64 0, .slice none 0 0, .slice none 0 0] 35 (0, 0)) := by rw [hW, heap_setCell_at, heap_setCell_at, heap_setCell_at, heap_setCell_at, HR2.out]; rfl
    have d0 : W.cell? ⟨w.heap.size + 1, 0, none⟩ = some (.bool false) := cell_of_heap hh 0
    have d1 : W.cell? ⟨w.heap.size + 1, 1, none⟩ = some (.int .i64 0) := cell_of_heap hh 1
    have d2 : W.cell? ⟨w.heap.size + 1, 2, none⟩ = some (.slice none 0 0) := cell_of_heap hh 2
    have d3 : W.cell? ⟨w.heap.size + 1, 3, none⟩ = some (.slice none 0 0) := cell_of_heap hh 3
    have hc : Chg (fun k => k = w.heap.size + 1) w2 W := hW ▸ ((((Chg.refl (fun k => k = w.heap.size + 1) w2).setCell (p := ⟨w.heap.size + 1, _, none⟩) (.inl rfl) _).setCell (p := ⟨w.heap.size + 1, _, none⟩) (.inl rfl) _).setCell (p := ⟨w.heap.size + 1, _, none⟩) (.inl rfl) _).setCell (p := ⟨w.heap.size + 1, _, none⟩) (.inl rfl) _
    refine bodyPost_ret (v := .agg #[.bool false, .int .i64 0, .slice none 0 0, .slice none 0 0]) (by simp [results, Tryd.results22, go_sem, d0, d1, d2, d3]) rfl ?_
    have hsay : TSays ⟨false, 0, none, 0, [], none, 0, []⟩ (ansT dsc st ⟨.set, K, V, N⟩) := ⟨fun b e => (by cases e), fun m e => (by cases e), fun m e => (by cases e), fun m e => (by cases e)⟩
    exact write_fin HX.out HB3.out HX2.out HC2.out HM2.out hs3 hc hsay rfl rfl rfl rfl

end Go.Proofs.YtffgkocokkhahaaDoor

/- impl.treeDeed: len, first, last. PRINTED BY wip/tpl/gen_ytd.py. -/
namespace Go.Proofs.YtffgkocokkhahaaDoor
open Go.RowKit

set_option maxRecDepth 100000 in
set_option maxHeartbeats 3200000 in
theorem deed_len {dsc : Bool} {n t : Nat} {st : List PR} {M D : Nat → Prop} {w : World} (h : TrX dsc n t st M D w) {K V : List VV} {A B : Option Addr} {c d : Nat} {N : Int} :
    Calls Tryd.prog 22 #[.pointer (some ⟨t, 0, none⟩), .agg #[.string ⟨#[108, 101, 110]⟩, .slice A K.length c, .slice B V.length d, .int .i64 N]] w (TDeedP dsc n t st ⟨.len, K, V, N⟩ M D w) := by
  have HX := Lib.hid h
  have HC : Hid (∀ (w' : World), Below w.heap.size w w' → Calls Tryd.prog 42 #[.pointer (some ⟨t, 0, none⟩)] w' fun y w'' => y = .returned (.int .i64 st.length) ∧ Below w'.heap.size w' w'') := Lib.hid (fun w' hb => tr_len (h.below hb))
  clear h
  go_enter Tryd.func22, Tryd.ntmps22
  go_wp2_with (first
    | (go_at_call 42
       refine (HC.out _ (below_al2 w _ _)).mono ?_
       rintro y w1 ⟨rfl, hb1⟩
       have HK1 : Hid (w1.heap[w.heap.size]? = some (.cells #[.string ⟨#[108, 101, 110]⟩, .slice A K.length c, .slice B V.length d, .int .i64 N] 27 (0, 0))) := Lib.hid (heap_below ((heap_alloc_ne _ _ _ (by simp)).trans (heap_new w _)) hb1)
       have HR1 : Hid (w1.heap[w.heap.size + 1]? = some (.cells #[.bool false, .int .i64 0, .slice none 0 0, .slice none 0 0] 35 (0, 0))) := Lib.hid (heap_below (by have := heap_new (w.alloc (.cells #[.string ⟨#[108, 101, 110]⟩, .slice A K.length c, .slice B V.length d, .int .i64 N] 27)) (.cells #[.bool false, .int .i64 0, .slice none 0 0, .slice none 0 0] 35); simpa using this) hb1)
       have HB1 : Hid (Below w.heap.size w w1) := Lib.hid (up_below (below_al2 w _ _) (Nat.le_refl _) hb1)
       have hs1 : w.heap.size + 2 ≤ w1.heap.size := lt_of_heap HR1.out
       have r0 := cell_of_heap HR1.out 0
       have f0 := free_of_heap HR1.out 0
       have r1 := cell_of_heap HR1.out 1
       have f1 := free_of_heap HR1.out 1
       have r2 := cell_of_heap HR1.out 2
       have f2 := free_of_heap HR1.out 2
       have r3 := cell_of_heap HR1.out 3
       have f3 := free_of_heap HR1.out 3
       clear hb1))
  obtain ⟨W, hW⟩ : ∃ W, W = (((w1.setCell ⟨w.heap.size + 1, 0, none⟩ (.bool false)).setCell ⟨w.heap.size + 1, 1, none⟩ (.int .i64 st.length)).setCell ⟨w.heap.size + 1, 2, none⟩ (.slice none 0 0)).setCell ⟨w.heap.size + 1, 3, none⟩ (.slice none 0 0) := ⟨_, rfl⟩
  rw [← hW]
  have hh : W.heap[w.heap.size + 1]? = some (.cells #[.bool false, .int .i64 st.length, .slice none 0 0, .slice none 0 0] 35 (0, 0)) := by rw [hW, heap_setCell_at, heap_setCell_at, heap_setCell_at, heap_setCell_at, HR1.out]; rfl
  have d0 : W.cell? ⟨w.heap.size + 1, 0, none⟩ = some (.bool false) := cell_of_heap hh 0
  have d1 : W.cell? ⟨w.heap.size + 1, 1, none⟩ = some (.int .i64 st.length) := cell_of_heap hh 1
  have d2 : W.cell? ⟨w.heap.size + 1, 2, none⟩ = some (.slice none 0 0) := cell_of_heap hh 2
  have d3 : W.cell? ⟨w.heap.size + 1, 3, none⟩ = some (.slice none 0 0) := cell_of_heap hh 3
  have hc : Chg (fun k => k = w.heap.size + 1) w1 W := hW ▸ ((((Chg.refl (fun k => k = w.heap.size + 1) w1).setCell (p := ⟨w.heap.size + 1, _, none⟩) (.inl rfl) _).setCell (p := ⟨w.heap.size + 1, _, none⟩) (.inl rfl) _).setCell (p := ⟨w.heap.size + 1, _, none⟩) (.inl rfl) _).setCell (p := ⟨w.heap.size + 1, _, none⟩) (.inl rfl) _
  refine bodyPost_ret (v := .agg #[.bool false, .int .i64 st.length, .slice none 0 0, .slice none 0 0]) (by simp [results, Tryd.results22, go_sem, d0, d1, d2, d3]) rfl ?_
  have hsay : TSays ⟨false, st.length, none, 0, [], none, 0, []⟩ (ansT dsc st ⟨.len, K, V, N⟩) := ⟨fun b e => (by cases e), fun m e => by rw [← Option.some.inj e], fun m e => (by cases e), fun m e => (by cases e)⟩
  exact read_fin HX.out rfl (below_fin HB1.out hc) hsay ⟨ValsIn.nil _ _, PairsIn.nil _ _⟩

set_option maxRecDepth 100000 in
set_option maxHeartbeats 3200000 in
theorem deed_first {dsc : Bool} {n t : Nat} {st : List PR} {M D : Nat → Prop} {w : World} (h : TrX dsc n t st M D w) {K V : List VV} {A B : Option Addr} {c d : Nat} {N : Int} {E : Value} (hE : HasEof w E) (h0 : 0 ≤ N) (h1 : N ≤ 1000000) :
    Calls Tryd.prog 22 #[.pointer (some ⟨t, 0, none⟩), .agg #[.string ⟨#[102, 105, 114, 115, 116]⟩, .slice A K.length c, .slice B V.length d, .int .i64 N]] w (TDeedP dsc n t st ⟨.first, K, V, N⟩ M D w) := by
  have HX := Lib.hid h
  have HC : Hid (∀ (w' : World), Below w.heap.size w w' → Calls Tryd.prog 45 #[.pointer (some ⟨t, 0, none⟩)] w' (SeekR (st.take N.toNat) N true w')) := Lib.hid (fun w' hb => tr_first (h.below hb) (hE.below hb) h0 h1)
  clear h hE h0 h1
  go_enter Tryd.func22, Tryd.ntmps22
  go_wp2_with (first
    | (go_at_call 45
       refine (HC.out _ (below_al2 w _ _)).mono ?_
       rintro y w1 ⟨it, er, rfl, hb1, hw1⟩
       have HW1 := Lib.hid hw1
       have HK1 : Hid (w1.heap[w.heap.size]? = some (.cells #[.string ⟨#[102, 105, 114, 115, 116]⟩, .slice A K.length c, .slice B V.length d, .int .i64 N] 27 (0, 0))) := Lib.hid (heap_below ((heap_alloc_ne _ _ _ (by simp)).trans (heap_new w _)) hb1)
       have HR1 : Hid (w1.heap[w.heap.size + 1]? = some (.cells #[.bool false, .int .i64 0, .slice none 0 0, .slice none 0 0] 35 (0, 0))) := Lib.hid (heap_below (by have := heap_new (w.alloc (.cells #[.string ⟨#[102, 105, 114, 115, 116]⟩, .slice A K.length c, .slice B V.length d, .int .i64 N] 27)) (.cells #[.bool false, .int .i64 0, .slice none 0 0, .slice none 0 0] 35); simpa using this) hb1)
       have HB1 : Hid (Below w.heap.size w w1) := Lib.hid (up_below (below_al2 w _ _) (Nat.le_refl _) hb1)
       have hs1 : w.heap.size + 2 ≤ w1.heap.size := lt_of_heap HR1.out
       have HQ1 : Hid (w.heap.size + 2 ≤ ((w.alloc (.cells #[.string ⟨#[102, 105, 114, 115, 116]⟩, .slice A K.length c, .slice B V.length d, .int .i64 N] 27)).alloc (.cells #[.bool false, .int .i64 0, .slice none 0 0, .slice none 0 0] 35)).heap.size) := Lib.hid (by simp)
       have k3 := cell_of_heap HK1.out 3
       clear hb1 hw1)
    | (go_at_call 46
       refine (HW1.out _ (Below.refl _ _)).mono ?_
       rintro y w2 ⟨P, p, rs, rfl, hi2, ho2, hb2⟩
       have HI2 := Lib.hid hi2
       have HO2 := Lib.hid ho2
       have HB2 : Hid (Below w.heap.size w w2) := Lib.hid (HB1.out.trans (hb2.mono (Nat.le_trans (Nat.le_add_right _ 2) HQ1.out)))
       have HR2 : Hid (w2.heap[w.heap.size + 1]? = some (.cells #[.bool false, .int .i64 0, .slice none 0 0, .slice none 0 0] 35 (0, 0))) := Lib.hid ((hb2.block _ (Nat.lt_of_lt_of_le (Nat.lt_succ_self _) HQ1.out)).trans HR1.out)
       have r0 := cell_of_heap HR2.out 0
       have f0 := free_of_heap HR2.out 0
       have r1 := cell_of_heap HR2.out 1
       have f1 := free_of_heap HR2.out 1
       have r2 := cell_of_heap HR2.out 2
       have f2 := free_of_heap HR2.out 2
       have r3 := cell_of_heap HR2.out 3
       have f3 := free_of_heap HR2.out 3
       clear hi2 ho2 hb2))
  have HQ2 : PairsIn (fun z => w.heap.size + 2 ≤ z ∧ z < w2.heap.size) w2 P rs := HI2.out.mono (fun k h => ⟨Nat.le_trans hs1 h.1, h.2⟩)
  obtain ⟨W, hW⟩ : ∃ W, W = (((w2.setCell ⟨w.heap.size + 1, 0, none⟩ (.bool false)).setCell ⟨w.heap.size + 1, 1, none⟩ (.int .i64 0)).setCell ⟨w.heap.size + 1, 2, none⟩ (.slice none 0 0)).setCell ⟨w.heap.size + 1, 3, none⟩ (.slice P rs.length p) := ⟨_, rfl⟩
  rw [← hW]
  have hh : W.heap[w.heap.size + 1]? = some (.cells #[.bool false, .int .i64 0, .slice none 0 0, .slice P rs.length p] 35 (0, 0)) := by rw [hW, heap_setCell_at, heap_setCell_at, heap_setCell_at, heap_setCell_at, HR2.out]; rfl
  have d0 : W.cell? ⟨w.heap.size + 1, 0, none⟩ = some (.bool false) := cell_of_heap hh 0
  have d1 : W.cell? ⟨w.heap.size + 1, 1, none⟩ = some (.int .i64 0) := cell_of_heap hh 1
  have d2 : W.cell? ⟨w.heap.size + 1, 2, none⟩ = some (.slice none 0 0) := cell_of_heap hh 2
  have d3 : W.cell? ⟨w.heap.size + 1, 3, none⟩ = some (.slice P rs.length p) := cell_of_heap hh 3
  have hc : Chg (fun k => k = w.heap.size + 1) w2 W := hW ▸ ((((Chg.refl (fun k => k = w.heap.size + 1) w2).setCell (p := ⟨w.heap.size + 1, _, none⟩) (.inl rfl) _).setCell (p := ⟨w.heap.size + 1, _, none⟩) (.inl rfl) _).setCell (p := ⟨w.heap.size + 1, _, none⟩) (.inl rfl) _).setCell (p := ⟨w.heap.size + 1, _, none⟩) (.inl rfl) _
  refine bodyPost_ret (v := .agg #[.bool false, .int .i64 0, .slice none 0 0, .slice P rs.length p]) (by simp [results, Tryd.results22, go_sem, d0, d1, d2, d3]) rfl ?_
  have hsay : TSays ⟨false, 0, none, 0, [], P, p, rs⟩ (ansT dsc st ⟨.first, K, V, N⟩) := ⟨fun b e => (by cases e), fun m e => (by cases e), fun m e => (by cases e), fun m e => by rw [← Option.some.inj e]; exact HO2.out⟩
  exact read_fin HX.out rfl (below_fin HB2.out hc) hsay ⟨ValsIn.nil _ _, HQ2.up (Nat.le_refl _) hc⟩

set_option maxRecDepth 100000 in
set_option maxHeartbeats 3200000 in
theorem deed_last {dsc : Bool} {n t : Nat} {st : List PR} {M D : Nat → Prop} {w : World} (h : TrX dsc n t st M D w) {K V : List VV} {A B : Option Addr} {c d : Nat} {N : Int} {E : Value} (hE : HasEof w E) (h0 : 0 ≤ N) (h1 : N ≤ 1000000) :
    Calls Tryd.prog 22 #[.pointer (some ⟨t, 0, none⟩), .agg #[.string ⟨#[108, 97, 115, 116]⟩, .slice A K.length c, .slice B V.length d, .int .i64 N]] w (TDeedP dsc n t st ⟨.last, K, V, N⟩ M D w) := by
  have HX := Lib.hid h
  have HC : Hid (∀ (w' : World), Below w.heap.size w w' → Calls Tryd.prog 47 #[.pointer (some ⟨t, 0, none⟩)] w' (SeekR (st.reverse.take N.toNat) N false w')) := Lib.hid (fun w' hb => tr_last (h.below hb) (hE.below hb) h0 h1)
  clear h hE h0 h1
  go_enter Tryd.func22, Tryd.ntmps22
  go_wp2_with (first
    | (go_at_call 47
       refine (HC.out _ (below_al2 w _ _)).mono ?_
       rintro y w1 ⟨it, er, rfl, hb1, hw1⟩
       have HW1 := Lib.hid hw1
       have HK1 : Hid (w1.heap[w.heap.size]? = some (.cells #[.string ⟨#[108, 97, 115, 116]⟩, .slice A K.length c, .slice B V.length d, .int .i64 N] 27 (0, 0))) := Lib.hid (heap_below ((heap_alloc_ne _ _ _ (by simp)).trans (heap_new w _)) hb1)
       have HR1 : Hid (w1.heap[w.heap.size + 1]? = some (.cells #[.bool false, .int .i64 0, .slice none 0 0, .slice none 0 0] 35 (0, 0))) := Lib.hid (heap_below (by have := heap_new (w.alloc (.cells #[.string ⟨#[108, 97, 115, 116]⟩, .slice A K.length c, .slice B V.length d, .int .i64 N] 27)) (.cells #[.bool false, .int .i64 0, .slice none 0 0, .slice none 0 0] 35); simpa using this) hb1)
       have HB1 : Hid (Below w.heap.size w w1) := Lib.hid (up_below (below_al2 w _ _) (Nat.le_refl _) hb1)
       have hs1 : w.heap.size + 2 ≤ w1.heap.size := lt_of_heap HR1.out
       have HQ1 : Hid (w.heap.size + 2 ≤ ((w.alloc (.cells #[.string ⟨#[108, 97, 115, 116]⟩, .slice A K.length c, .slice B V.length d, .int .i64 N] 27)).alloc (.cells #[.bool false, .int .i64 0, .slice none 0 0, .slice none 0 0] 35)).heap.size) := Lib.hid (by simp)
       have k3 := cell_of_heap HK1.out 3
       clear hb1 hw1)
    | (go_at_call 46
       refine (HW1.out _ (Below.refl _ _)).mono ?_
       rintro y w2 ⟨P, p, rs, rfl, hi2, ho2, hb2⟩
       have HI2 := Lib.hid hi2
       have HO2 := Lib.hid ho2
       have HB2 : Hid (Below w.heap.size w w2) := Lib.hid (HB1.out.trans (hb2.mono (Nat.le_trans (Nat.le_add_right _ 2) HQ1.out)))
       have HR2 : Hid (w2.heap[w.heap.size + 1]? = some (.cells #[.bool false, .int .i64 0, .slice none 0 0, .slice none 0 0] 35 (0, 0))) := Lib.hid ((hb2.block _ (Nat.lt_of_lt_of_le (Nat.lt_succ_self _) HQ1.out)).trans HR1.out)
       have r0 := cell_of_heap HR2.out 0
       have f0 := free_of_heap HR2.out 0
       have r1 := cell_of_heap HR2.out 1
       have f1 := free_of_heap HR2.out 1
       have r2 := cell_of_heap HR2.out 2
       have f2 := free_of_heap HR2.out 2
       have r3 := cell_of_heap HR2.out 3
       have f3 := free_of_heap HR2.out 3
       clear hi2 ho2 hb2))
  have HQ2 : PairsIn (fun z => w.heap.size + 2 ≤ z ∧ z < w2.heap.size) w2 P rs := HI2.out.mono (fun k h => ⟨Nat.le_trans hs1 h.1, h.2⟩)
  obtain ⟨W, hW⟩ : ∃ W, W = (((w2.setCell ⟨w.heap.size + 1, 0, none⟩ (.bool false)).setCell ⟨w.heap.size + 1, 1, none⟩ (.int .i64 0)).setCell ⟨w.heap.size + 1, 2, none⟩ (.slice none 0 0)).setCell ⟨w.heap.size + 1, 3, none⟩ (.slice P rs.length p) := ⟨_, rfl⟩
  rw [← hW]
  have hh : W.heap[w.heap.size + 1]? = some (.cells #[.bool false, .int .i64 0, .slice none 0 0, .slice P rs.length p] 35 (0, 0)) := by rw [hW, heap_setCell_at, heap_setCell_at, heap_setCell_at, heap_setCell_at, HR2.out]; rfl
  have d0 : W.cell? ⟨w.heap.size + 1, 0, none⟩ = some (.bool false) := cell_of_heap hh 0
  have d1 : W.cell? ⟨w.heap.size + 1, 1, none⟩ = some (.int .i64 0) := cell_of_heap hh 1
  have d2 : W.cell? ⟨w.heap.size + 1, 2, none⟩ = some (.slice none 0 0) := cell_of_heap hh 2
  have d3 : W.cell? ⟨w.heap.size + 1, 3, none⟩ = some (.slice P rs.length p) := cell_of_heap hh 3
  have hc : Chg (fun k => k = w.heap.size + 1) w2 W := hW ▸ ((((Chg.refl (fun k => k = w.heap.size + 1) w2).setCell (p := ⟨w.heap.size + 1, _, none⟩) (.inl rfl) _).setCell (p := ⟨w.heap.size + 1, _, none⟩) (.inl rfl) _).setCell (p := ⟨w.heap.size + 1, _, none⟩) (.inl rfl) _).setCell (p := ⟨w.heap.size + 1, _, none⟩) (.inl rfl) _
  refine bodyPost_ret (v := .agg #[.bool false, .int .i64 0, .slice none 0 0, .slice P rs.length p]) (by simp [results, Tryd.results22, go_sem, d0, d1, d2, d3]) rfl ?_
  have hsay : TSays ⟨false, 0, none, 0, [], P, p, rs⟩ (ansT dsc st ⟨.last, K, V, N⟩) := ⟨fun b e => (by cases e), fun m e => (by cases e), fun m e => (by cases e), fun m e => by rw [← Option.some.inj e]; exact HO2.out⟩
  exact read_fin HX.out rfl (below_fin HB2.out hc) hsay ⟨ValsIn.nil _ _, HQ2.up (Nat.le_refl _) hc⟩

end Go.Proofs.YtffgkocokkhahaaDoor
