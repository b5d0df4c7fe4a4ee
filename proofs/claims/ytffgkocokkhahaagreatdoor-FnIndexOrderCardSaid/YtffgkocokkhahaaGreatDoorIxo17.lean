/-
  (*memIndex).Create of an index that is not unique. || impl.indexWalk. || impl.indexWalk, back. PRINTED off XXwa.lean.tpl (walk_next, the names turned). || impl.indexWalk where there is nothing; through an index from its first entry on, and from its last one back. || impl.indexWalk where there is nothing. || Keys put in order, one after the other. || An index and the data of its keys: Create, SeekFirst, SeekLast and indexWalk of it. || Lists of rows in memory.
-/
import Derived.Test.YtffgkocokkhahaaGreatDoorIxo16
import Derived.Deep.RegionLaw
import Derived.Test.YtffgkocokkhahaaGreatDoorIxo07
import Derived.Test.YtffgkocokkhahaaGreatDoorIxo10
import Derived.Test.YtffgkocokkhahaaGreatDoorIxo13

/- (*memIndex).Create of an index that is not unique. -/
namespace Go.Proofs.YtffgkocokkhahaaGreatDoor
open Go.RowKit

theorem own_chg {S : Nat → Prop} {w w' : World} {base : Nat} {e : TypeId} {size : Nat} {v : Value} {n : Nat} {xs : List Value} (h : w.ownsRow base e size v n xs) (hc : Chg S w w') (hn : ∀ b, v.ownBlock = some b → ¬ S b) : w'.ownsRow base e size v n xs := by
  obtain ⟨h1, h2⟩ := h
  refine ⟨h1, ?_⟩
  rcases h2 with h2 | ⟨g, cap, cur, e1, e2, e3, e4⟩
  · exact .inl h2
  · exact .inr ⟨g, cap, cur, e1, e2, heap_chg e3 hc (hn g (by rw [e1]; rfl)), e4⟩
theorem own_lt {w : World} {base : Nat} {e : TypeId} {size : Nat} {v : Value} {n : Nat} {xs : List Value} (h : w.ownsRow base e size v n xs) {b : Nat} (hb : v.ownBlock = some b) : b < w.heap.size := by
  rcases h.2 with ⟨h2, _⟩ | ⟨g, cap, cur, e1, e2, e3, e4⟩
  · rw [h2] at hb; cases hb
  · rw [e1] at hb
    have : g = b := by simpa [Value.ownBlock] using hb
    subst this
    exact lt_of_heap e3
theorem StoreAt.chg {S : Nat → Prop} {w w' : World} {m n r : Nat} {L : Value} (h : StoreAt w m n r L) (hc : Chg S w w') (hm : ¬ S m) (hr : ¬ S r) (hn : ∀ b, L.ownBlock = some b → ¬ S b) : StoreAt w' m n r L := by
  obtain ⟨⟨cs, h1, h2⟩, ⟨p, s, h3⟩, ⟨xs, h4⟩⟩ := h
  exact ⟨⟨cs, heap_chg h1 hc hm, h2⟩, ⟨p, s, heap_chg h3 hc hr⟩, ⟨xs, own_chg h4 hc hn⟩⟩
theorem StoreAt.lt {w : World} {m n r : Nat} {L : Value} (h : StoreAt w m n r L) : m < w.heap.size ∧ r < w.heap.size ∧ ∀ b, L.ownBlock = some b → b < w.heap.size := by
  obtain ⟨⟨cs, h1, h2⟩, ⟨p, s, h3⟩, ⟨xs, h4⟩⟩ := h
  exact ⟨lt_of_heap h1, lt_of_heap h3, fun b hb => own_lt h4 hb⟩
theorem StoreAt.ne {w : World} {m n r : Nat} {L : Value} (h : StoreAt w m n r L) {b : Nat} {cs : Array Value} {T : TypeId} {fr : Nat × Nat} (hb : w.heap[b]? = some (.cells cs T fr)) (h1 : T ≠ 132) (h2 : T ≠ 163) : ¬ b = r ∧ ¬ L.ownBlock = some b := by
  obtain ⟨_, ⟨p, s, h3⟩, ⟨xs, h4⟩⟩ := h
  exact ⟨fun e => by subst e; rw [hb] at h3; injection h3 with h3; injection h3 with _ ht; exact h1 ht, own_ne h4 hb (fun e => h2 e.symm)⟩

theorem TreeAt.chg {T S : Nat → Prop} {w w' : World} {t : Nat} {es : List XE} (h : TreeAt w t es S) (hc : Chg T w w') (hn : ∀ k, S k → ¬ T k) : TreeAt w' t es S := by
  cases h with
  | none h =>
    obtain ⟨ver, h⟩ := h
    exact .none ⟨ver, h.chg hc (hn t rfl)⟩
  | lone h =>
    obtain ⟨⟨ver, h1⟩, ⟨rest, h2⟩, h3⟩ := h
    exact .lone ⟨⟨ver, h1.chg hc (hn t (.inl rfl))⟩, ⟨rest, h2.chg hc (hn _ (.inr rfl))⟩, h3⟩
  | many h =>
    obtain ⟨⟨ver, h1⟩, ⟨b0, bs, xr, h2, h3⟩, h4, h5, h6, h7⟩ := h
    exact .many ⟨⟨ver, h1.chg hc (hn t (.inl (.inl rfl)))⟩, ⟨b0, bs, xr, h2, h3.chg hc (hn _ (.inl (.inr rfl)))⟩, chain_chg h4 hc (fun p hp => hn _ (.inr (mem_blocks hp))), h5, h6, h7⟩
theorem TreeAt.lt {S : Nat → Prop} {w : World} {t : Nat} {es : List XE} (h : TreeAt w t es S) : ∀ k, S k → k < w.heap.size := by
  cases h with
  | none h =>
    obtain ⟨ver, h⟩ := h
    rintro k rfl
    exact lt_of_heap h
  | lone h =>
    obtain ⟨⟨ver, h1⟩, ⟨rest, h2⟩, h3⟩ := h
    rintro k (rfl | rfl)
    · exact lt_of_heap h1
    · exact h2.lt
  | many h =>
    obtain ⟨⟨ver, h1⟩, ⟨b0, bs, xr, h2, h3⟩, h4, h5, h6, h7⟩ := h
    rintro k ((rfl | rfl) | hk)
    · exact lt_of_heap h1
    · exact lt_of_heap h3.heap
    · obtain ⟨p, hp, rfl⟩ := List.mem_map.1 hk
      exact chain_lt h4 p hp

/-- An index whose tree has the entries. -/
structure IdxAt (w : World) (x m t n r : Nat) (L : Value) (uni : Bool) (S : Nat → Prop) (es : List XE) : Prop where
  idx : IdxW w x m t uni
  tree : TreeAt w t es S
  store : StoreAt w m n r L
  apart : ∀ k, S k → k ≠ x ∧ k ≠ m ∧ k ≠ r ∧ L.ownBlock ≠ some k

def Mut (S : Nat → Prop) (r : Nat) (L : Value) : Nat → Prop := fun k => S k ∨ k = r ∨ L.ownBlock = some k

def CreateP (x m t n r : Nat) (L : Value) (uni : Bool) (S : Nat → Prop) (es : List XE) (w : World) (y : Ending) (w' : World) : Prop :=
  y = .returned .nilIface ∧ ∃ S' L', IdxAt w' x m t n r L' uni S' es ∧ Chg (Mut S r L) w w' ∧ ∀ k, Mut S' r L' k → Mut S r L k ∨ w.heap.size ≤ k

set_option maxRecDepth 100000 in
set_option maxHeartbeats 3200000 in
theorem create_any (x m t n r : Nat) (L : Value) (S : Nat → Prop) (es : List XE) (e : XE) (he : e.n = 0) (g : Nat) (cs s : Nat → Int) (w : World) (h : IdxAt w x m t n r L false S es) (hn : n ≤ 100000) (hlen : es.length ≤ 12800) (h0 : 0 ≤ e.h) (h1 : e.h ≤ 9223372036854775807)
    (ha : ∀ w', Chg (Mut S r L) w w' → Asks w' (.slice e.A e.m e.p) es cs) (hsd : ∀ (j : Nat) (e' : XE), es[j]? = some e' → s j = keyC (cs j) e.h e'.h) (hp : Pos s es.length g false) :
    Calls Tryz.prog 38 #[.pointer (some ⟨x, 0, none⟩), .slice e.A e.m e.p, .int .i64 e.h] w (CreateP x m t (n + 1) r L false S (es.take g ++ e :: es.drop g) w) := by
  obtain ⟨hx, ht, hst, hap⟩ := h
  have c0 : w.cell? ⟨x, 0, none⟩ = some (.pointer (some ⟨m, 0, none⟩)) := cell_of_heap hx 0
  have c1 : w.cell? ⟨x, 1, none⟩ = some (.pointer (some ⟨t, 0, none⟩)) := cell_of_heap hx 1
  have c2 : w.cell? ⟨x, 2, none⟩ = some (.bool false) := cell_of_heap hx 2
  have lx := lt_of_heap hx
  have HX := Lib.hid hx
  have HT := Lib.hid ht
  have HS := Lib.hid hst
  have HA := Lib.hid ha
  have HP := Lib.hid hap
  have HD := Lib.hid hsd
  have HQ := Lib.hid hp
  clear hx ht hst ha hap hsd hp
  go_enter Tryz.func38, Tryz.ntmps38
  go_wp2_with fail
  go_region_law
    (go_simp; go_at_call 64
     refine (undo_any m n r L _ (HS.out.chg (S := fun _ => False) (((Chg.refl _ w).alloc _).alloc _).drew id id (fun _ _ h => h)) hn 5 0 _ 2 2).mono ?_
     rintro y w2 ⟨rfl, L2, hs2, hc2, ho2⟩
     have HS2 := Lib.hid hs2
     have HO2 := Lib.hid ho2
     have HC2 : Hid (Chg (fun b => b = r ∨ L.ownBlock = some b) w w2) := Lib.hid (((((Chg.refl (fun b => b = r ∨ L.ownBlock = some b) w).alloc _).alloc _).drew).trans hc2)
     have HK2 : Hid (w2.heap[w.heap.size]? = some (.cells #[.slice e.A e.m e.p, .int .i64 e.h] 136 (0, 0))) := Lib.hid (heap_chg (((heap_drew _ _).trans (heap_alloc_ne _ _ _ (by simp))).trans (heap_new w _)) hc2 (fun h => by
       have h2 := HS.out.lt
       rcases h with h | h
       · omega
       · have := h2.2.2 _ h; omega))
     have k0 := cell_of_heap HK2.out 0
     have k1 := cell_of_heap HK2.out 1
     have HT2 : Hid (TreeAt w2 t es S) := Lib.hid (HT.out.chg HC2.out (fun k hk h => by
       have h3 := HP.out k hk
       rcases h with h | h
       · exact h3.2.2.1 h
       · exact h3.2.2.2 h))
     clear hs2 ho2 hc2)
  go_wp2_with (go_at_call 65
               have HSET := set_any t es S e g cs s w2 HT2.out hlen h0 h1 (HA.out w2 (HC2.out.mono (fun k _ h => .inr h))) HD.out HQ.out
               rw [he] at HSET
               refine HSET.mono ?_
               rintro y w3 ⟨rfl, S3, ht3, hc3, hg3⟩
               have HT3 := Lib.hid ht3
               have HC3 := Lib.hid hc3
               have HG3 := Lib.hid hg3
               clear ht3 hc3 hg3 HSET)
  all_goals
    go_ret
    have hxr := HS.out.ne HX.out (by decide) (by decide)
    have hls := HS.out.lt
    have hl2 := HS2.out.lt
    have hx2 : IdxW w2 x m t false := heap_chg HX.out HC2.out (fun h => h.elim hxr.1 hxr.2)
    have hx2' : w2.heap[x]? = some (.cells #[ptr m, ptr t, .bool false] 129 (0, 0)) := hx2
    have hxr2 := HS2.out.ne hx2' (by decide) (by decide)
    have lt2 := HT2.out.lt
    have hown : ∀ b, L2.ownBlock = some b → ¬ S b := fun b hb hS => by
      rcases HO2.out b hb with h | h
      · exact (HP.out b hS).2.2.2 h
      · have := HT.out.lt b hS
        simp at h
        omega
    refine ⟨rfl, S3, L2, ⟨heap_chg hx2' HC3.out (fun h => (HP.out x h).1 rfl), HT3.out, HS2.out.chg HC3.out (fun h => (HP.out m h).2.1 rfl) (fun h => (HP.out r h).2.2.1 rfl) hown, ?_⟩, ?_, ?_⟩
    · intro k hk
      rcases HG3.out k hk with h | h
      · exact ⟨(HP.out k h).1, (HP.out k h).2.1, (HP.out k h).2.2.1, fun hb => hown k hb h⟩
      · have hs2 := HC2.out.size
        exact ⟨by omega, by have := hl2.1; omega, by have := hl2.2.1; omega, fun hb => by have := hl2.2.2 k hb; omega⟩
    · exact (HC2.out.mono (fun k _ h => .inr h)).next HC3.out (fun k _ h => .inl h)
    · intro k hk
      have hs2 := HC2.out.size
      rcases hk with h | h | h
      · rcases HG3.out k h with h | h
        · exact .inl (.inl h)
        · exact .inr (by omega)
      · exact .inl (.inr (.inl h))
      · rcases HO2.out k h with h | h
        · exact .inl (.inr (.inr h))
        · simp at h
          exact .inr (by omega)

end Go.Proofs.YtffgkocokkhahaaGreatDoor

/- impl.indexWalk. -/
namespace Go.Proofs.YtffgkocokkhahaaGreatDoor
open Go.RowKit

theorem info_irow : (Tryz.prog.info? 65).map (fun i => (i.zero, i.size, i.bytes)) = some (some (.agg #[.slice none 0 0, .int .i64 0]), 2, 32) := by kernel_rfl

structure RowV where
  A : Option Addr
  c : Nat
  h : Int
  us : List VV
def RowV.cells (r : RowV) : List Value := [.slice r.A r.us.length r.c, .int .i64 r.h]

/-- A row that came out, of an entry. -/
structure RowOk (B : Nat) (w : World) (e : XE) (r : RowV) : Prop where
  h : r.h = e.h
  len : r.us.length = e.l.length
  outs : ∀ (j : Nat) (x u : VV), e.l[j]? = some x → r.us[j]? = some u → OutOf x u
  own : w.ownsRow B 57 5 (.slice r.A r.us.length r.c) r.us.length (flat VV.cells r.us)

@[go_sem] theorem meth_next (n : Nat) (p : Option Addr) (w : World) : (method (n + 1) 148 (.pointer p) "Next").run Tryz.prog w = .ok (151, .pointer p) w := by kernel_rfl
@[go_sem] theorem meth_prev (n : Nat) (p : Option Addr) (w : World) : (method (n + 1) 148 (.pointer p) "Prev").run Tryz.prog w = .ok (152, .pointer p) w := by kernel_rfl

theorem own_ge {w : World} {B : Nat} {e : TypeId} {size n : Nat} {v : Value} {xs : List Value} (h : w.ownsRow B e size v n xs) {b : Nat} (hb : v.ownBlock = some b) : B ≤ b := by
  rcases h.2 with ⟨h2, _⟩ | ⟨g, cap, cur, e1, e2, _⟩
  · rw [h2] at hb; cases hb
  · rw [e1] at hb
    have : g = b := by simpa [Value.ownBlock] using hb
    subst this
    exact e2
theorem own_mono {w : World} {B C : Nat} {e : TypeId} {size n : Nat} {v : Value} {xs : List Value} (h : w.ownsRow B e size v n xs) (hb : C ≤ B) : w.ownsRow C e size v n xs :=
  ⟨h.1, h.2.elim .inl (fun ⟨g, cap, cur, e1, e2, e3⟩ => .inr ⟨g, cap, cur, e1, Nat.le_trans hb e2, e3⟩)⟩
/-- Rows of two types lie apart. -/
theorem own_own {w : World} {B C : Nat} {e f : TypeId} {s t n m : Nat} {u v : Value} {xs ys : List Value} (h : w.ownsRow B e s u n xs) (g : w.ownsRow C f t v m ys) (hne : e ≠ f) : ∀ b, u.ownBlock = some b → v.ownBlock ≠ some b := by
  intro b hb
  rcases h.2 with ⟨h2, _⟩ | ⟨k, cap, cur, e1, e2, e3, _⟩
  · rw [h2] at hb; cases hb
  · rw [e1] at hb
    have : k = b := by simpa [Value.ownBlock] using hb
    subst this
    exact own_ne g e3 (fun h => hne h.symm)

theorem RowOk.chg {B : Nat} {S : Nat → Prop} {w w' : World} {e : XE} {r : RowV} (h : RowOk B w e r) (hc : Chg S w w') (hn : ∀ b, (Value.slice r.A r.us.length r.c).ownBlock = some b → ¬ S b) : RowOk B w' e r := ⟨h.h, h.len, h.outs, own_chg h.own hc hn⟩

def RowsOk (B : Nat) (w : World) (es : List XE) (rs : List RowV) : Prop := ∀ (j : Nat) (e : XE) (r : RowV), es[j]? = some e → rs[j]? = some r → RowOk B w e r

def WalkP (n : Int) (hit : Bool) (es : List XE) (b : Nat) (w : World) (y : Ending) (w' : World) : Prop :=
  ∃ R k rs, y = .returned (.agg #[.int .i64 0, .bool hit, R]) ∧ w'.ownsRow w.heap.size 65 2 R k (flat RowV.cells rs) ∧ rs.length = k ∧ k ≤ es.length ∧ (k : Int) ≤ n ∧ ((k : Int) = n ∨ k = es.length) ∧ RowsOk w.heap.size w' es rs ∧ Chg (fun x => x = b) w w'

theorem walk_kc2 {w1 w2 w3 : World} {a : Nat} {o : Obj} {R : Value} (HB2 : Below w1.heap.size w1 w2) (HG3 : (w2.alloc o).grownBy w3 R.ownBlock) (v : Value) :
    Chg (fun z => R.ownBlock = some z ∨ z = a) w1 (w3.setCell ⟨a, 2, none⟩ v) := by
  have k1 : Chg (fun z => R.ownBlock = some z ∨ z = a) w1 w3 := ((Chg.of_below HB2).alloc _).next (Chg.of_grown HG3) (fun z _ h => .inl h.symm)
  exact k1.setCell (p := ⟨a, 2, none⟩) (.inl (.inr rfl)) v
theorem walk_kc {wr w1 w2 w3 : World} {a b : Nat} {o : Obj} {R : Value} (HC1 : Chg (fun z => z = b) wr w1) (HB2 : Below w1.heap.size w1 w2) (HG3 : (w2.alloc o).grownBy w3 R.ownBlock) (v : Value) :
    Chg (fun z => z = b ∨ R.ownBlock = some z ∨ z = a) wr (w3.setCell ⟨a, 2, none⟩ v) :=
  (HC1.mono (fun _ _ h => .inl h)).next (walk_kc2 HB2 HG3 v) (fun _ _ h => .inr h)

theorem walk_step {n : Int} {hit : Bool} {es : List XE} {b k gg cap c2 : Nat} {w wr w1 w2 w3 : World} {rs : List RowV} {R : Value} {x : XE} {A2 : Option Addr} {us2 : List VV} {o : Obj} {It : Nat → World → Prop} {cs : Array Value} (lb : b < w.heap.size)
    (HA : wr.heap[w.heap.size]? = some (.cells cs 47 (0, 0))) (HB : wr.heap[w.heap.size + 1]? = some (.cells #[.int .i64 0, .bool hit, R] 47 (0, 0)))
    (HO : wr.ownsRow w.heap.size 65 2 R k (flat RowV.cells rs)) (HK : RowsOk w.heap.size wr es rs) (HW : Chg (fun z => z = b) w wr) (HRS : rs.length = k) (HX : es[k]? = some x) (hlt : k < es.length) (hkn : (k : Int) + 1 ≤ n)
    (kc : Chg (fun z => z = b ∨ R.ownBlock = some z ∨ z = w.heap.size + 1) wr (w3.setCell ⟨w.heap.size + 1, 2, none⟩ (.slice (some ⟨gg, 0, none⟩) (k + 1) cap)))
    (HB3 : w3.heap[w.heap.size + 1]? = some (.cells #[.int .i64 0, .bool hit, R] 47 (0, 0))) (HO1 : w1.ownsRow w.heap.size 65 2 R k (flat RowV.cells rs)) (HB1 : w1.heap[w.heap.size + 1]? = some (.cells #[.int .i64 0, .bool hit, R] 47 (0, 0)))
    (HO2 : w2.ownsRow w1.heap.size 57 5 (.slice A2 x.l.length c2) x.l.length (flat VV.cells us2)) (HL2 : us2.length = x.l.length) (HU2 : ∀ (j : Nat) (a u : VV), x.l[j]? = some a → us2[j]? = some u → OutOf a u)
    (HG3 : (w2.alloc o).grownBy w3 R.ownBlock) (HO3 : w3.ownsRow w.heap.size 65 2 (.slice (some ⟨gg, 0, none⟩) (k + 1) cap) (k + 1) (flat RowV.cells rs ++ [.slice A2 x.l.length c2, .int .i64 x.h])) (HI : It (k + 1) (w3.setCell ⟨w.heap.size + 1, 2, none⟩ (.slice (some ⟨gg, 0, none⟩) (k + 1) cap)))
    {E : Value} :
    (rs ++ [(⟨A2, c2, x.h, us2⟩ : RowV)]).length = k + 1 ∧ k + 1 ≤ es.length ∧ ((k + 1 : Nat) : Int) ≤ n ∧
      (w3.setCell ⟨w.heap.size + 1, 2, none⟩ (.slice (some ⟨gg, 0, none⟩) (k + 1) cap)).heap[w.heap.size]? = some (.cells cs 47 (0, 0)) ∧
      (w3.setCell ⟨w.heap.size + 1, 2, none⟩ (.slice (some ⟨gg, 0, none⟩) (k + 1) cap)).heap[w.heap.size + 1]? = some (.cells #[.int .i64 0, .bool hit, .slice (some ⟨gg, 0, none⟩) (k + 1) cap] 47 (0, 0)) ∧
      (w3.setCell ⟨w.heap.size + 1, 2, none⟩ (.slice (some ⟨gg, 0, none⟩) (k + 1) cap)).ownsRow w.heap.size 65 2 (.slice (some ⟨gg, 0, none⟩) (k + 1) cap) (k + 1) (flat RowV.cells (rs ++ [⟨A2, c2, x.h, us2⟩])) ∧
      RowsOk w.heap.size (w3.setCell ⟨w.heap.size + 1, 2, none⟩ (.slice (some ⟨gg, 0, none⟩) (k + 1) cap)) es (rs ++ [⟨A2, c2, x.h, us2⟩]) ∧
      Chg (fun z => z = b) w (w3.setCell ⟨w.heap.size + 1, 2, none⟩ (.slice (some ⟨gg, 0, none⟩) (k + 1) cap)) ∧
      ((Value.nilIface = .nilIface ∧ Value.int .i64 ((k : Int) + 1) = .int .i64 ((k + 1 : Nat) : Int) ∧ It (k + 1) (w3.setCell ⟨w.heap.size + 1, 2, none⟩ (.slice (some ⟨gg, 0, none⟩) (k + 1) cap))) ∨ (Value.nilIface = E ∧ k + 1 = es.length ∧ Value.int .i64 ((k : Int) + 1) = .int .i64 (((k + 1 : Nat) : Int) + 1))) := by
  have hAR : R.ownBlock ≠ some w.heap.size := own_ne HO HA (by decide)
  have hBR : R.ownBlock ≠ some (w.heap.size + 1) := own_ne HO1 HB1 (by decide)
  refine ⟨by simp [HRS], hlt, by push_cast; omega, heap_chg HA kc (by rintro (h | h | h); omega; exact hAR h; omega), heap_set HB3 2 _, ?_, ?_, ?_, .inl ⟨rfl, by push_cast; rfl, HI⟩⟩
  · have h1 := own_ne HO3 HB3 (by decide)
    have h2 := ownsRow_setCell_other HO3 (a := ⟨w.heap.size + 1, 2, none⟩) h1 (.slice (some ⟨gg, 0, none⟩) (k + 1) cap)
    rw [flat_append]
    have e1 : flat RowV.cells [(⟨A2, c2, x.h, us2⟩ : RowV)] = [.slice A2 x.l.length c2, .int .i64 x.h] := by simp [flat, RowV.cells, HL2]
    rw [e1]
    exact h2
  · intro j e r he hr
    have lA := lt_of_heap HB1
    rcases Nat.lt_or_ge j k with h | h
    · rw [List.getElem?_append_left (by omega)] at hr
      have hrow := HK j e r he hr
      refine hrow.chg kc (fun z hz hS => ?_)
      rcases hS with hS | hS | hS
      · have := own_ge hrow.own hz
        omega
      · exact own_own hrow.own HO (by decide) z hz hS
      · exact own_ne hrow.own HB (by decide) (by rw [hz, hS])
    · rw [List.getElem?_append_right (by omega), HRS] at hr
      have hj : j = k := by
        rcases Nat.eq_or_lt_of_le h with h | h
        · exact h.symm
        · rw [List.getElem?_eq_none (by simp; omega)] at hr
          cases hr
      subst hj
      rw [Nat.sub_self] at hr
      obtain rfl : (⟨A2, c2, x.h, us2⟩ : RowV) = r := Option.some.inj hr
      obtain rfl : e = x := Option.some.inj (he.symm.trans HX)
      refine ⟨rfl, HL2, HU2, ?_⟩
      show World.ownsRow _ _ _ _ (.slice A2 us2.length c2) us2.length (flat VV.cells us2)
      rw [HL2]
      have k1 : Chg (fun z => R.ownBlock = some z ∨ z = w.heap.size + 1) w2 w3 := ((Chg.refl _ w2).alloc _).next (Chg.of_grown HG3) (fun z _ h => .inl h.symm)
      refine own_chg (own_mono HO2 (by omega)) (k1.setCell (p := ⟨w.heap.size + 1, 2, none⟩) (.inl (.inr rfl)) _) (fun z hz hS => ?_)
      have hge := own_ge HO2 hz
      rcases hS with hS | hS
      · have := own_lt HO1 hS
        omega
      · omega
  · exact HW.next kc (fun z hz h => by
      rcases h with h | h | h
      · exact h
      · have := own_ge HO h; omega
      · omega)

theorem walk_fin {n : Int} {hit : Bool} {es : List XE} {b k : Nat} {w wr W : World} {rs : List RowV} {R : Value} {cs : Array Value} (hA : wr.heap[w.heap.size]? = some (.cells cs 47 (0, 0)))
    (hown : wr.ownsRow w.heap.size 65 2 R k (flat RowV.cells rs)) (hok : RowsOk w.heap.size wr es rs) (hW : Chg (fun x => x = b) w wr) (hc : Chg (fun x => x = w.heap.size) wr W) (hrs : rs.length = k) (hk : k ≤ es.length) (hkn : (k : Int) ≤ n) (hor : (k : Int) = n ∨ k = es.length) :
    WalkP n hit es b w (.returned (.agg #[.int .i64 0, .bool hit, R])) W := by
  refine ⟨R, k, rs, rfl, own_chg hown hc (fun x hx h => own_ne hown hA (by decide) (by rw [hx, h])), hrs, hk, hkn, hor, fun j e r he hr => (hok j e r he hr).chg hc (fun x hx h => own_ne (hok j e r he hr).own hA (by decide) (by rw [hx, h])), hW.next hc (fun x hx h => by omega)⟩

set_option maxRecDepth 100000 in
set_option maxHeartbeats 3200000 in
theorem walk_next (b : Nat) (n : Int) (hit : Bool) (es : List XE) (It : Nat → World → Prop) (E : Value) (w : World) (h0 : 0 ≤ n) (h1 : n ≤ 1000000) (lb : b < w.heap.size) (hE : ∃ a, E = .iface 194 (.pointer (some a))) (hI : It 0 w)
    (HS : Hid (∀ k x w1, Chg (fun x => x = b) w w1 → It k w1 → es[k]? = some x → Calls Tryz.prog 151 #[.pointer (some ⟨b, 0, none⟩)] w1 (Got2 x b (It (k + 1)) w1)))
    (HE : Hid (∀ w1, Chg (fun x => x = b) w w1 → It es.length w1 → Calls Tryz.prog 151 #[.pointer (some ⟨b, 0, none⟩)] w1 (fun y w' => y = .returned (.tuple #[.slice none 0 0, .int .i64 (-1), E]) ∧ Below w1.heap.size w1 w')))
    (HC : Hid (∀ k w1 w2 (S : Nat → Prop), It k w1 → Chg S w1 w2 → ¬ S b → It k w2))
    (HD : Hid (∀ (k : Nat) (x : XE) (w1 : World), Chg (fun x => x = b) w w1 → es[k]? = some x → Calls Tryz.prog 56 #[.slice x.A x.m x.p] w1 (OutsPost x.l w1))) :
    Calls Tryz.prog 45 #[.iface 148 (.pointer (some ⟨b, 0, none⟩)), .nilIface, .int .i64 n, .bool true, .bool hit] w (WalkP n hit es b w) := by
  obtain ⟨i0, hi, hz0, hz1, hz2⟩ := info_parts info_irow
  obtain ⟨aE, rfl⟩ := hE
  have HI := Lib.hid hI
  clear hI
  go_enter Tryz.func45, Tryz.ntmps45
  go_wp2
  go_loopw [1, 12] (fun er i wr => ∃ (k : Nat) (rs : List RowV) (R : Value), rs.length = k ∧ k ≤ es.length ∧ (k : Int) ≤ n ∧
      wr.heap[w.heap.size]? = some (.cells #[.int .i64 0, .bool false, .slice none 0 0] 47 (0, 0)) ∧ wr.heap[w.heap.size + 1]? = some (.cells #[.int .i64 0, .bool hit, R] 47 (0, 0)) ∧
      wr.ownsRow w.heap.size 65 2 R k (flat RowV.cells rs) ∧ RowsOk w.heap.size wr es rs ∧ Chg (fun x => x = b) w wr ∧
      ((er = .nilIface ∧ i = .int .i64 k ∧ It k wr) ∨ (er = .iface 194 (.pointer (some aE)) ∧ k = es.length ∧ i = .int .i64 (k + 1)))) (fun _ i _ => (n + 2 - intOf i).toNat)
  case atStart =>
    refine ⟨0, [], .slice none 0 0, rfl, Nat.zero_le _, h0, ?_, ?_, World.ownsRow_nil _ _ _ _, fun j e r _ h => by simp at h, ((Chg.refl _ _).alloc _).alloc _, .inl ⟨rfl, rfl, HC.out 0 w _ (fun _ => False) HI.out (((Chg.refl _ _).alloc _).alloc _) id⟩⟩
    · exact (heap_alloc_ne _ _ _ (by simp)).trans (heap_new w _)
    · have := heap_new (w.alloc (.cells #[.int .i64 0, .bool false, .slice none 0 0] 47)) (.cells #[.int .i64 0, .bool hit, .slice none 0 0] 47)
      simpa using this
  case round =>
    obtain ⟨k, rs, R, hrs, hk, hkn, hA, hB, hown, hok, hch, hor⟩ := hrel
    have HA := Lib.hid hA
    have HB := Lib.hid hB
    have HO := Lib.hid hown
    have HK := Lib.hid hok
    have HW := Lib.hid hch
    have HRS := Lib.hid hrs
    have hs := hch.size
    clear hA hB hown hok hch hrs
    rcases hor with ⟨rfl, rfl, hI⟩ | ⟨rfl, hke, rfl⟩
    · by_cases hlt : (k : Int) < n
      · have b2 : wr.cell? ⟨w.heap.size + 1, 2, none⟩ = some R := cell_of_heap HB.out 2
        have g2 : wr.frozen? ⟨w.heap.size + 1, 2, none⟩ = false := free_of_heap HB.out 2
        have hkw : IntKind.i64.wrap ((k : Int) + 1) = (k : Int) + 1 := IntWalk.i64_in _ (by omega)
        rcases Nat.lt_or_ge k es.length with hlt2 | hge
        · obtain ⟨x, hx⟩ : ∃ x, es[k]? = some x := ⟨_, List.getElem?_eq_getElem hlt2⟩
          have HX := Lib.hid hx
          have HN := Lib.hid (HS.out k x wr HW.out hI hx)
          clear hx hI b2 g2
          go_wp2_with (go_at_call 151
                       refine HN.out.mono ?_
                       rintro y w1 ⟨rfl, hI1, hc1⟩
                       have HI1 := Lib.hid hI1
                       have HC1 := Lib.hid hc1
                       have hs1 := hc1.size
                       clear hI1 hc1)
          have hW1 : Chg (fun z => z = b) w w1 := HW.out.trans HC1.out
          have HW1 := Lib.hid hW1
          have HA1 := Lib.hid (heap_chg HA.out HC1.out (by omega))
          have HB1 := Lib.hid (heap_chg HB.out HC1.out (by omega))
          have HO1 := Lib.hid (own_chg HO.out HC1.out (fun z hz h => by have := own_ge HO.out hz; omega))
          have lA := lt_of_heap HB1.out
          have b2 : w1.cell? ⟨w.heap.size + 1, 2, none⟩ = some R := cell_of_heap HB1.out 2
          clear hW1
          go_region_law
            (first
              | (refine step_append_lies _ (by rfl) _ _ _ (by rfl) w.heap.size 65 i0 _ 2 32 Tryz.underlying37 hi hz0 hz1 hz2 rfl (by omega) R k (flat RowV.cells rs) (by rfl) ((own_below HO1.out HB2.out).alloc _)
                  ⟨w2.heap.size, 0, none⟩ 1 1 [.slice A2 x.l.length c2, .int .i64 x.h] (by rfl) (by rfl) (World.news_of_block (cs := #[.slice A2 x.l.length c2, .int .i64 x.h]) (t := 65) (fr := (0, 0)) (heap_new w2 _)) (by simp [Value.oneCell'])
                  (by omega) (by simp only [maxLen]; omega) (by omega) (by have := HB2.out.size; simp; omega) (w2.heap.size + 1) (by simp) ?_
                 intro gg cap w3 hown3 hgrow hat hlt
                 have HG3 := Lib.hid hgrow
                 have HO3 := Lib.hid hown3
                 have HB3 : Hid (w3.heap[w.heap.size + 1]? = some (.cells #[.int .i64 0, .bool hit, R] 47 (0, 0))) := Lib.hid ((hgrow.block _ (by have := HB2.out.size; simp; omega) (Ne.symm (own_ne HO1.out HB1.out (by decide)))).trans ((heap_alloc_ne _ _ _ (by have := HB2.out.size; omega)).trans ((HB2.out.block _ lA).trans HB1.out)))
                 have c3 : w3.cell? ⟨w.heap.size + 1, 2, none⟩ = some R := cell_of_heap HB3.out 2
                 have f3 : w3.frozen? ⟨w.heap.size + 1, 2, none⟩ = false := free_of_heap HB3.out 2
                 clear hgrow hown3)
              | (go_simp; go_at_call 56
                 refine (HD.out k x _ (by first | exact HW1.out | exact HW1.out.drew) HX.out).mono ?_
                 rintro y w2 ⟨A2, c2, us2, rfl, hown2, hlen2, hout2, hb2⟩
                 have HB2 : Hid (Below w1.heap.size w1 w2) := (by first | exact Lib.hid hb2 | exact Lib.hid ⟨hb2.os, hb2.tape, hb2.output, hb2.size, hb2.block⟩)
                 have HO2 : Hid (w2.ownsRow w1.heap.size 57 5 (.slice A2 x.l.length c2) x.l.length (flat VV.cells us2)) := Lib.hid hown2
                 have HL2 := Lib.hid hlen2
                 have HU2 := Lib.hid hout2
                 have d2 : w2.cell? ⟨w.heap.size + 1, 2, none⟩ = some R := (World.cell?_of_block (HB2.out.block _ lA)).trans b2
                 have d3 : (w2.alloc (.cells #[.slice A2 x.l.length c2, .int .i64 x.h] 65)).cell? ⟨w.heap.size + 1, 2, none⟩ = some R := (World.cell?_of_block (heap_alloc_ne w2 (w.heap.size + 1) _ (by have := HB2.out.size; omega))).trans d2
                 clear hb2 hown2 hlen2 hout2))
          all_goals
            go_wp2
            have kc := walk_kc (a := w.heap.size + 1) HC1.out HB2.out HG3.out (.slice (some ⟨gg, 0, none⟩) (k + 1) cap)
            exact ⟨⟨k + 1, rs ++ [⟨A2, c2, x.h, us2⟩], .slice (some ⟨gg, 0, none⟩) (k + 1) cap, walk_step lb HA.out HB.out HO.out HK.out HW.out HRS.out HX.out hlt2 (by omega) kc HB3.out HO1.out HB1.out HO2.out HL2.out HU2.out HG3.out HO3.out (HC.out (k + 1) w1 _ _ HI1.out (walk_kc2 (a := w.heap.size + 1) HB2.out HG3.out _) (by rintro (h | h); exact absurd (own_ge HO1.out h) (by omega); omega))⟩, by simp [intOf]; omega⟩
        · have hke : k = es.length := by omega
          have HN := Lib.hid (HE.out wr HW.out (hke ▸ hI))
          clear hI
          go_wp2_with (go_at_call 151
                       refine HN.out.mono ?_
                       rintro y w1 ⟨rfl, hb1⟩
                       have HB1 := Lib.hid hb1
                       have hs1 := hb1.size
                       clear hb1)
          exact ⟨⟨k, rs, R, HRS.out, hk, hkn, heap_below HA.out HB1.out, heap_below HB.out HB1.out, own_below HO.out HB1.out, fun j e r he hr => (HK.out j e r he hr).chg (Chg.of_below (S := fun _ => False) HB1.out) (fun _ _ h => h), HW.out.trans (Chg.of_below HB1.out), .inr ⟨rfl, hke, by rw [hke]⟩⟩, by simp [intOf]; omega⟩
      · obtain ⟨A', c', rfl⟩ := own_form HO.out
        have a0 := cell_of_heap HA.out 0
        have a1 := cell_of_heap HA.out 1
        have a2 := cell_of_heap HA.out 2
        have b0 := cell_of_heap HB.out 0
        have b1 := cell_of_heap HB.out 1
        have b2 := cell_of_heap HB.out 2
        have g0 := free_of_heap HA.out 0
        have g1 := free_of_heap HA.out 1
        have g2 := free_of_heap HA.out 2
        have hn' := hk
        go_wp2
        obtain ⟨W, hW⟩ : ∃ W, W = ((wr.setCell ⟨w.heap.size, 0, none⟩ (.int .i64 0)).setCell ⟨w.heap.size, 1, none⟩ (.bool hit)).setCell ⟨w.heap.size, 2, none⟩ (.slice A' k c') := ⟨_, rfl⟩
        rw [← hW]
        have hh : W.heap[w.heap.size]? = some (.cells #[.int .i64 0, .bool hit, .slice A' k c'] 47 (0, 0)) := by rw [hW, heap_setCell_at, heap_setCell_at, heap_setCell_at, HA.out]; rfl
        have d0 : W.cell? ⟨w.heap.size, 0, none⟩ = some (.int .i64 0) := cell_of_heap hh 0
        have d1 : W.cell? ⟨w.heap.size, 1, none⟩ = some (.bool hit) := cell_of_heap hh 1
        have d2 : W.cell? ⟨w.heap.size, 2, none⟩ = some (.slice A' k c') := cell_of_heap hh 2
        refine bodyPost_ret (v := .agg #[.int .i64 0, .bool hit, .slice A' k c']) (by simp [results, Tryz.results45, go_sem, d0, d1, d2]) rfl ?_
        exact walk_fin HA.out HO.out HK.out HW.out (hW ▸ Chg.setCell (Chg.setCell (Chg.setCell (Chg.refl (fun x => x = w.heap.size) wr) (p := ⟨w.heap.size, _, none⟩) (.inl rfl) _) (p := ⟨w.heap.size, _, none⟩) (.inl rfl) _) (p := ⟨w.heap.size, _, none⟩) (.inl rfl) _) HRS.out hk hkn (by omega)
    · subst hke
      obtain ⟨A', c', rfl⟩ := own_form HO.out
      have a0 := cell_of_heap HA.out 0
      have a1 := cell_of_heap HA.out 1
      have a2 := cell_of_heap HA.out 2
      have b0 := cell_of_heap HB.out 0
      have b1 := cell_of_heap HB.out 1
      have b2 := cell_of_heap HB.out 2
      have g0 := free_of_heap HA.out 0
      have g1 := free_of_heap HA.out 1
      have g2 := free_of_heap HA.out 2
      have hn' := hk
      go_wp2
      obtain ⟨W, hW⟩ : ∃ W, W = ((wr.setCell ⟨w.heap.size, 0, none⟩ (.int .i64 0)).setCell ⟨w.heap.size, 1, none⟩ (.bool hit)).setCell ⟨w.heap.size, 2, none⟩ (.slice A' es.length c') := ⟨_, rfl⟩
      rw [← hW]
      have hh : W.heap[w.heap.size]? = some (.cells #[.int .i64 0, .bool hit, .slice A' es.length c'] 47 (0, 0)) := by rw [hW, heap_setCell_at, heap_setCell_at, heap_setCell_at, HA.out]; rfl
      have d0 : W.cell? ⟨w.heap.size, 0, none⟩ = some (.int .i64 0) := cell_of_heap hh 0
      have d1 : W.cell? ⟨w.heap.size, 1, none⟩ = some (.bool hit) := cell_of_heap hh 1
      have d2 : W.cell? ⟨w.heap.size, 2, none⟩ = some (.slice A' es.length c') := cell_of_heap hh 2
      refine bodyPost_ret (v := .agg #[.int .i64 0, .bool hit, .slice A' es.length c']) (by simp [results, Tryz.results45, go_sem, d0, d1, d2]) rfl ?_
      exact walk_fin HA.out HO.out HK.out HW.out (hW ▸ Chg.setCell (Chg.setCell (Chg.setCell (Chg.refl (fun x => x = w.heap.size) wr) (p := ⟨w.heap.size, _, none⟩) (.inl rfl) _) (p := ⟨w.heap.size, _, none⟩) (.inl rfl) _) (p := ⟨w.heap.size, _, none⟩) (.inl rfl) _) HRS.out hk hkn (by omega)

end Go.Proofs.YtffgkocokkhahaaGreatDoor

/- impl.indexWalk, back. PRINTED off XXwa.lean.tpl (walk_next, the names turned). -/
namespace Go.Proofs.YtffgkocokkhahaaGreatDoor
open Go.RowKit

set_option maxRecDepth 100000 in
set_option maxHeartbeats 3200000 in
theorem walk_prev (b : Nat) (n : Int) (hit : Bool) (es : List XE) (It : Nat → World → Prop) (E : Value) (w : World) (h0 : 0 ≤ n) (h1 : n ≤ 1000000) (lb : b < w.heap.size) (hE : ∃ a, E = .iface 194 (.pointer (some a))) (hI : It 0 w)
    (HS : Hid (∀ k x w1, Chg (fun x => x = b) w w1 → It k w1 → es[k]? = some x → Calls Tryz.prog 152 #[.pointer (some ⟨b, 0, none⟩)] w1 (Got2 x b (It (k + 1)) w1)))
    (HE : Hid (∀ w1, Chg (fun x => x = b) w w1 → It es.length w1 → Calls Tryz.prog 152 #[.pointer (some ⟨b, 0, none⟩)] w1 (fun y w' => y = .returned (.tuple #[.slice none 0 0, .int .i64 (-1), E]) ∧ Below w1.heap.size w1 w')))
    (HC : Hid (∀ k w1 w2 (S : Nat → Prop), It k w1 → Chg S w1 w2 → ¬ S b → It k w2))
    (HD : Hid (∀ (k : Nat) (x : XE) (w1 : World), Chg (fun x => x = b) w w1 → es[k]? = some x → Calls Tryz.prog 56 #[.slice x.A x.m x.p] w1 (OutsPost x.l w1))) :
    Calls Tryz.prog 45 #[.iface 148 (.pointer (some ⟨b, 0, none⟩)), .nilIface, .int .i64 n, .bool false, .bool hit] w (WalkP n hit es b w) := by
  obtain ⟨i0, hi, hz0, hz1, hz2⟩ := info_parts info_irow
  obtain ⟨aE, rfl⟩ := hE
  have HI := Lib.hid hI
  clear hI
  go_enter Tryz.func45, Tryz.ntmps45
  go_wp2
  go_loopw [1, 12] (fun er i wr => ∃ (k : Nat) (rs : List RowV) (R : Value), rs.length = k ∧ k ≤ es.length ∧ (k : Int) ≤ n ∧
      wr.heap[w.heap.size]? = some (.cells #[.int .i64 0, .bool false, .slice none 0 0] 47 (0, 0)) ∧ wr.heap[w.heap.size + 1]? = some (.cells #[.int .i64 0, .bool hit, R] 47 (0, 0)) ∧
      wr.ownsRow w.heap.size 65 2 R k (flat RowV.cells rs) ∧ RowsOk w.heap.size wr es rs ∧ Chg (fun x => x = b) w wr ∧
      ((er = .nilIface ∧ i = .int .i64 k ∧ It k wr) ∨ (er = .iface 194 (.pointer (some aE)) ∧ k = es.length ∧ i = .int .i64 (k + 1)))) (fun _ i _ => (n + 2 - intOf i).toNat)
  case atStart =>
    refine ⟨0, [], .slice none 0 0, rfl, Nat.zero_le _, h0, ?_, ?_, World.ownsRow_nil _ _ _ _, fun j e r _ h => by simp at h, ((Chg.refl _ _).alloc _).alloc _, .inl ⟨rfl, rfl, HC.out 0 w _ (fun _ => False) HI.out (((Chg.refl _ _).alloc _).alloc _) id⟩⟩
    · exact (heap_alloc_ne _ _ _ (by simp)).trans (heap_new w _)
    · have := heap_new (w.alloc (.cells #[.int .i64 0, .bool false, .slice none 0 0] 47)) (.cells #[.int .i64 0, .bool hit, .slice none 0 0] 47)
      simpa using this
  case round =>
    obtain ⟨k, rs, R, hrs, hk, hkn, hA, hB, hown, hok, hch, hor⟩ := hrel
    have HA := Lib.hid hA
    have HB := Lib.hid hB
    have HO := Lib.hid hown
    have HK := Lib.hid hok
    have HW := Lib.hid hch
    have HRS := Lib.hid hrs
    have hs := hch.size
    clear hA hB hown hok hch hrs
    rcases hor with ⟨rfl, rfl, hI⟩ | ⟨rfl, hke, rfl⟩
    · by_cases hlt : (k : Int) < n
      · have b2 : wr.cell? ⟨w.heap.size + 1, 2, none⟩ = some R := cell_of_heap HB.out 2
        have g2 : wr.frozen? ⟨w.heap.size + 1, 2, none⟩ = false := free_of_heap HB.out 2
        have hkw : IntKind.i64.wrap ((k : Int) + 1) = (k : Int) + 1 := IntWalk.i64_in _ (by omega)
        rcases Nat.lt_or_ge k es.length with hlt2 | hge
        · obtain ⟨x, hx⟩ : ∃ x, es[k]? = some x := ⟨_, List.getElem?_eq_getElem hlt2⟩
          have HX := Lib.hid hx
          have HN := Lib.hid (HS.out k x wr HW.out hI hx)
          clear hx hI b2 g2
          go_wp2_with (go_at_call 152
                       refine HN.out.mono ?_
                       rintro y w1 ⟨rfl, hI1, hc1⟩
                       have HI1 := Lib.hid hI1
                       have HC1 := Lib.hid hc1
                       have hs1 := hc1.size
                       clear hI1 hc1)
          have hW1 : Chg (fun z => z = b) w w1 := HW.out.trans HC1.out
          have HW1 := Lib.hid hW1
          have HA1 := Lib.hid (heap_chg HA.out HC1.out (by omega))
          have HB1 := Lib.hid (heap_chg HB.out HC1.out (by omega))
          have HO1 := Lib.hid (own_chg HO.out HC1.out (fun z hz h => by have := own_ge HO.out hz; omega))
          have lA := lt_of_heap HB1.out
          have b2 : w1.cell? ⟨w.heap.size + 1, 2, none⟩ = some R := cell_of_heap HB1.out 2
          clear hW1
          go_region_law
            (first
              | (refine step_append_lies _ (by rfl) _ _ _ (by rfl) w.heap.size 65 i0 _ 2 32 Tryz.underlying37 hi hz0 hz1 hz2 rfl (by omega) R k (flat RowV.cells rs) (by rfl) ((own_below HO1.out HB2.out).alloc _)
                  ⟨w2.heap.size, 0, none⟩ 1 1 [.slice A2 x.l.length c2, .int .i64 x.h] (by rfl) (by rfl) (World.news_of_block (cs := #[.slice A2 x.l.length c2, .int .i64 x.h]) (t := 65) (fr := (0, 0)) (heap_new w2 _)) (by simp [Value.oneCell'])
                  (by omega) (by simp only [maxLen]; omega) (by omega) (by have := HB2.out.size; simp; omega) (w2.heap.size + 1) (by simp) ?_
                 intro gg cap w3 hown3 hgrow hat hlt
                 have HG3 := Lib.hid hgrow
                 have HO3 := Lib.hid hown3
                 have HB3 : Hid (w3.heap[w.heap.size + 1]? = some (.cells #[.int .i64 0, .bool hit, R] 47 (0, 0))) := Lib.hid ((hgrow.block _ (by have := HB2.out.size; simp; omega) (Ne.symm (own_ne HO1.out HB1.out (by decide)))).trans ((heap_alloc_ne _ _ _ (by have := HB2.out.size; omega)).trans ((HB2.out.block _ lA).trans HB1.out)))
                 have c3 : w3.cell? ⟨w.heap.size + 1, 2, none⟩ = some R := cell_of_heap HB3.out 2
                 have f3 : w3.frozen? ⟨w.heap.size + 1, 2, none⟩ = false := free_of_heap HB3.out 2
                 clear hgrow hown3)
              | (go_simp; go_at_call 56
                 refine (HD.out k x _ (by first | exact HW1.out | exact HW1.out.drew) HX.out).mono ?_
                 rintro y w2 ⟨A2, c2, us2, rfl, hown2, hlen2, hout2, hb2⟩
                 have HB2 : Hid (Below w1.heap.size w1 w2) := (by first | exact Lib.hid hb2 | exact Lib.hid ⟨hb2.os, hb2.tape, hb2.output, hb2.size, hb2.block⟩)
                 have HO2 : Hid (w2.ownsRow w1.heap.size 57 5 (.slice A2 x.l.length c2) x.l.length (flat VV.cells us2)) := Lib.hid hown2
                 have HL2 := Lib.hid hlen2
                 have HU2 := Lib.hid hout2
                 have d2 : w2.cell? ⟨w.heap.size + 1, 2, none⟩ = some R := (World.cell?_of_block (HB2.out.block _ lA)).trans b2
                 have d3 : (w2.alloc (.cells #[.slice A2 x.l.length c2, .int .i64 x.h] 65)).cell? ⟨w.heap.size + 1, 2, none⟩ = some R := (World.cell?_of_block (heap_alloc_ne w2 (w.heap.size + 1) _ (by have := HB2.out.size; omega))).trans d2
                 clear hb2 hown2 hlen2 hout2))
          all_goals
            go_wp2
            have kc := walk_kc (a := w.heap.size + 1) HC1.out HB2.out HG3.out (.slice (some ⟨gg, 0, none⟩) (k + 1) cap)
            exact ⟨⟨k + 1, rs ++ [⟨A2, c2, x.h, us2⟩], .slice (some ⟨gg, 0, none⟩) (k + 1) cap, walk_step lb HA.out HB.out HO.out HK.out HW.out HRS.out HX.out hlt2 (by omega) kc HB3.out HO1.out HB1.out HO2.out HL2.out HU2.out HG3.out HO3.out (HC.out (k + 1) w1 _ _ HI1.out (walk_kc2 (a := w.heap.size + 1) HB2.out HG3.out _) (by rintro (h | h); exact absurd (own_ge HO1.out h) (by omega); omega))⟩, by simp [intOf]; omega⟩
        · have hke : k = es.length := by omega
          have HN := Lib.hid (HE.out wr HW.out (hke ▸ hI))
          clear hI
          go_wp2_with (go_at_call 152
                       refine HN.out.mono ?_
                       rintro y w1 ⟨rfl, hb1⟩
                       have HB1 := Lib.hid hb1
                       have hs1 := hb1.size
                       clear hb1)
          exact ⟨⟨k, rs, R, HRS.out, hk, hkn, heap_below HA.out HB1.out, heap_below HB.out HB1.out, own_below HO.out HB1.out, fun j e r he hr => (HK.out j e r he hr).chg (Chg.of_below (S := fun _ => False) HB1.out) (fun _ _ h => h), HW.out.trans (Chg.of_below HB1.out), .inr ⟨rfl, hke, by rw [hke]⟩⟩, by simp [intOf]; omega⟩
      · obtain ⟨A', c', rfl⟩ := own_form HO.out
        have a0 := cell_of_heap HA.out 0
        have a1 := cell_of_heap HA.out 1
        have a2 := cell_of_heap HA.out 2
        have b0 := cell_of_heap HB.out 0
        have b1 := cell_of_heap HB.out 1
        have b2 := cell_of_heap HB.out 2
        have g0 := free_of_heap HA.out 0
        have g1 := free_of_heap HA.out 1
        have g2 := free_of_heap HA.out 2
        have hn' := hk
        go_wp2
        obtain ⟨W, hW⟩ : ∃ W, W = ((wr.setCell ⟨w.heap.size, 0, none⟩ (.int .i64 0)).setCell ⟨w.heap.size, 1, none⟩ (.bool hit)).setCell ⟨w.heap.size, 2, none⟩ (.slice A' k c') := ⟨_, rfl⟩
        rw [← hW]
        have hh : W.heap[w.heap.size]? = some (.cells #[.int .i64 0, .bool hit, .slice A' k c'] 47 (0, 0)) := by rw [hW, heap_setCell_at, heap_setCell_at, heap_setCell_at, HA.out]; rfl
        have d0 : W.cell? ⟨w.heap.size, 0, none⟩ = some (.int .i64 0) := cell_of_heap hh 0
        have d1 : W.cell? ⟨w.heap.size, 1, none⟩ = some (.bool hit) := cell_of_heap hh 1
        have d2 : W.cell? ⟨w.heap.size, 2, none⟩ = some (.slice A' k c') := cell_of_heap hh 2
        refine bodyPost_ret (v := .agg #[.int .i64 0, .bool hit, .slice A' k c']) (by simp [results, Tryz.results45, go_sem, d0, d1, d2]) rfl ?_
        exact walk_fin HA.out HO.out HK.out HW.out (hW ▸ Chg.setCell (Chg.setCell (Chg.setCell (Chg.refl (fun x => x = w.heap.size) wr) (p := ⟨w.heap.size, _, none⟩) (.inl rfl) _) (p := ⟨w.heap.size, _, none⟩) (.inl rfl) _) (p := ⟨w.heap.size, _, none⟩) (.inl rfl) _) HRS.out hk hkn (by omega)
    · subst hke
      obtain ⟨A', c', rfl⟩ := own_form HO.out
      have a0 := cell_of_heap HA.out 0
      have a1 := cell_of_heap HA.out 1
      have a2 := cell_of_heap HA.out 2
      have b0 := cell_of_heap HB.out 0
      have b1 := cell_of_heap HB.out 1
      have b2 := cell_of_heap HB.out 2
      have g0 := free_of_heap HA.out 0
      have g1 := free_of_heap HA.out 1
      have g2 := free_of_heap HA.out 2
      have hn' := hk
      go_wp2
      obtain ⟨W, hW⟩ : ∃ W, W = ((wr.setCell ⟨w.heap.size, 0, none⟩ (.int .i64 0)).setCell ⟨w.heap.size, 1, none⟩ (.bool hit)).setCell ⟨w.heap.size, 2, none⟩ (.slice A' es.length c') := ⟨_, rfl⟩
      rw [← hW]
      have hh : W.heap[w.heap.size]? = some (.cells #[.int .i64 0, .bool hit, .slice A' es.length c'] 47 (0, 0)) := by rw [hW, heap_setCell_at, heap_setCell_at, heap_setCell_at, HA.out]; rfl
      have d0 : W.cell? ⟨w.heap.size, 0, none⟩ = some (.int .i64 0) := cell_of_heap hh 0
      have d1 : W.cell? ⟨w.heap.size, 1, none⟩ = some (.bool hit) := cell_of_heap hh 1
      have d2 : W.cell? ⟨w.heap.size, 2, none⟩ = some (.slice A' es.length c') := cell_of_heap hh 2
      refine bodyPost_ret (v := .agg #[.int .i64 0, .bool hit, .slice A' es.length c']) (by simp [results, Tryz.results45, go_sem, d0, d1, d2]) rfl ?_
      exact walk_fin HA.out HO.out HK.out HW.out (hW ▸ Chg.setCell (Chg.setCell (Chg.setCell (Chg.refl (fun x => x = w.heap.size) wr) (p := ⟨w.heap.size, _, none⟩) (.inl rfl) _) (p := ⟨w.heap.size, _, none⟩) (.inl rfl) _) (p := ⟨w.heap.size, _, none⟩) (.inl rfl) _) HRS.out hk hkn (by omega)

end Go.Proofs.YtffgkocokkhahaaGreatDoor

/- impl.indexWalk where there is nothing; through an index from its first entry on, and from its last one back. -/
namespace Go.Proofs.YtffgkocokkhahaaGreatDoor
open Go.RowKit

theorem walk_first {P : List Pg} {b t : Nat} {ver : Int} {E : Value} {c : Int} {fi la r : Value} {w : World} {n : Int} {hit : Bool} (h0 : 0 ≤ n) (h1 : n ≤ 1000000) (hch : Chain w (.pointer none) P (.pointer none)) (hn : ∀ p ∈ P, 1 ≤ p.2.length) (hpb : ∀ p ∈ P, ¬ p.1 = b)
    (ht : TreeW w t c fi la r ver) (htb : ¬ t = b) (hE : HasEof w E) (hbE : ¬ 4 = b) (h : AtN P w b t ver false E 0) (lb : b < w.heap.size)
    (HD : Hid (∀ (k : Nat) (x : XE) (w1 : World), Chg (fun x => x = b) w w1 → (ents P)[k]? = some x → Calls Tryz.prog 56 #[.slice x.A x.m x.p] w1 (OutsPost x.l w1))) :
    Calls Tryz.prog 45 #[.iface 148 (.pointer (some ⟨b, 0, none⟩)), .nilIface, .int .i64 n, .bool true, .bool hit] w (WalkP n hit (ents P) b w) := by
  refine walk_next b n hit (ents P) (fun k w1 => AtN P w1 b t ver false E k) E w h0 h1 lb hE.form h (Lib.hid fun k x w1 hc hi hx => ?_) (Lib.hid fun w1 hc hi => ?_) (Lib.hid fun k w1 w2 S hi hc hS => hi.chg hc hS) HD
  · exact Next2_step x (chain_chg hch hc hpb) hn (ht.chg hc htb) (hE.chg hc hbE) hbE hi hx
  · generalize hg : (ents P).length = g at hi
    cases hi with
    | at_ hP hi h =>
      subst hP
      rw [ents_append] at hg
      simp [ents] at hg
      omega
    | end_ h => exact Next2_stop hE.form h

theorem walk_last {P : List Pg} {b t : Nat} {ver : Int} {E : Value} {c : Int} {fi la r : Value} {w : World} {n : Int} {hit : Bool} (h0 : 0 ≤ n) (h1 : n ≤ 1000000) (hch : Chain w (.pointer none) P (.pointer none)) (hn : ∀ p ∈ P, 1 ≤ p.2.length) (hpb : ∀ p ∈ P, ¬ p.1 = b)
    (ht : TreeW w t c fi la r ver) (htb : ¬ t = b) (hE : HasEof w E) (hbE : ¬ 4 = b) (h : AtP P w b t ver false E (ents P).length) (lb : b < w.heap.size)
    (HD : Hid (∀ (k : Nat) (x : XE) (w1 : World), Chg (fun x => x = b) w w1 → (ents P).reverse[k]? = some x → Calls Tryz.prog 56 #[.slice x.A x.m x.p] w1 (OutsPost x.l w1))) :
    Calls Tryz.prog 45 #[.iface 148 (.pointer (some ⟨b, 0, none⟩)), .nilIface, .int .i64 n, .bool false, .bool hit] w (WalkP n hit (ents P).reverse b w) := by
  refine walk_prev b n hit (ents P).reverse (fun k w1 => AtP P w1 b t ver false E ((ents P).length - k)) E w h0 h1 lb hE.form h (Lib.hid fun k x w1 hc hi hx => ?_) (Lib.hid fun w1 hc hi => ?_) (Lib.hid fun k w1 w2 S hi hc hS => hi.chg hc hS) HD
  · have hk : k < (ents P).length := by
      have := (List.getElem?_eq_some_iff.1 hx).1
      simpa using this
    have e1 : (ents P).length - k = ((ents P).length - (k + 1)) + 1 := by omega
    have hx' : (ents P)[(ents P).length - (k + 1)]? = some x := by
      rw [List.getElem?_reverse hk] at hx
      rw [← hx]
      congr 1
      omega
    rw [e1] at hi
    exact Prev2_step x (chain_chg hch hc hpb) hn (ht.chg hc htb) (hE.chg hc hbE) hbE hi hx'
  · rw [List.length_reverse, Nat.sub_self] at hi
    generalize hg : (0 : Nat) = g at hi
    cases hi with
    | at_ hP hi h => omega
    | end_ h => exact Prev2_stop hE.form h

end Go.Proofs.YtffgkocokkhahaaGreatDoor

/- impl.indexWalk where there is nothing. -/
namespace Go.Proofs.YtffgkocokkhahaaGreatDoor
open Go.RowKit

set_option maxRecDepth 100000 in
set_option maxHeartbeats 3200000 in
theorem walk_none (it E : Value) (n : Int) (nx hit : Bool) (w : World) (hE : ∃ a, E = .iface 194 (.pointer (some a))) :
    Calls Tryz.prog 45 #[it, E, .int .i64 n, .bool nx, .bool hit] w fun y w' => y = .returned (.agg #[.int .i64 0, .bool hit, .slice none 0 0]) ∧ Below w.heap.size w w' := by
  obtain ⟨aE, rfl⟩ := hE
  go_enter Tryz.func45, Tryz.ntmps45
  go_wp2
  go_loopw [1, 12] (fun er i wr => er = .iface 194 (.pointer (some aE)) ∧ i = .int .i64 0 ∧
      wr.heap[w.heap.size]? = some (.cells #[.int .i64 0, .bool false, .slice none 0 0] 47 (0, 0)) ∧ wr.heap[w.heap.size + 1]? = some (.cells #[.int .i64 0, .bool hit, .slice none 0 0] 47 (0, 0)) ∧ Below w.heap.size w wr) (fun _ _ _ => 0)
  case atStart =>
    refine ⟨rfl, rfl, ?_, ?_, below_al2 w _ _⟩
    · exact (heap_alloc_ne _ _ _ (by simp)).trans (heap_new w _)
    · have := heap_new (w.alloc (.cells #[.int .i64 0, .bool false, .slice none 0 0] 47)) (.cells #[.int .i64 0, .bool hit, .slice none 0 0] 47)
      simpa using this
  case round =>
    obtain ⟨rfl, rfl, hA, hB, hb⟩ := hrel
    have HA := Lib.hid hA
    have HB := Lib.hid hb
    have a0 := cell_of_heap HA.out 0
    have a1 := cell_of_heap HA.out 1
    have a2 := cell_of_heap HA.out 2
    have b0 := cell_of_heap hB 0
    have b1 := cell_of_heap hB 1
    have b2 := cell_of_heap hB 2
    have g0 := free_of_heap HA.out 0
    have g1 := free_of_heap HA.out 1
    have g2 := free_of_heap HA.out 2
    clear hA hB hb
    go_wp2
    obtain ⟨W, hW⟩ : ∃ W, W = ((wr.setCell ⟨w.heap.size, 0, none⟩ (.int .i64 0)).setCell ⟨w.heap.size, 1, none⟩ (.bool hit)).setCell ⟨w.heap.size, 2, none⟩ (.slice none 0 0) := ⟨_, rfl⟩
    rw [← hW]
    have hh : W.heap[w.heap.size]? = some (.cells #[.int .i64 0, .bool hit, .slice none 0 0] 47 (0, 0)) := by rw [hW, heap_setCell_at, heap_setCell_at, heap_setCell_at, HA.out]; rfl
    have d0 : W.cell? ⟨w.heap.size, 0, none⟩ = some (.int .i64 0) := cell_of_heap hh 0
    have d1 : W.cell? ⟨w.heap.size, 1, none⟩ = some (.bool hit) := cell_of_heap hh 1
    have d2 : W.cell? ⟨w.heap.size, 2, none⟩ = some (.slice none 0 0) := cell_of_heap hh 2
    refine bodyPost_ret (v := .agg #[.int .i64 0, .bool hit, .slice none 0 0]) (by simp [results, Tryz.results45, go_sem, d0, d1, d2]) rfl ?_
    have hc : Chg (fun x => x = w.heap.size) wr W := hW ▸ Chg.setCell (Chg.setCell (Chg.setCell (Chg.refl (fun x => x = w.heap.size) wr) (p := ⟨w.heap.size, _, none⟩) (.inl rfl) _) (p := ⟨w.heap.size, _, none⟩) (.inl rfl) _) (p := ⟨w.heap.size, _, none⟩) (.inl rfl) _
    have k1 : Chg (fun _ => False) w W := (Chg.of_below HB.out).next hc (fun x hx h => by omega)
    exact ⟨rfl, k1.below (Nat.le_refl _) (fun _ h => h.elim)⟩

end Go.Proofs.YtffgkocokkhahaaGreatDoor

/- Keys put in order, one after the other. -/
namespace Go.Proofs.YtffgkocokkhahaaGreatDoor
open Go.RowKit

def insK (r : Key) : List Key → List Key
  | [] => [r]
  | x :: l => if r.c x < 0 then r :: x :: l else x :: insK r l

def sortK (ks : List Key) : List Key := ks.foldl (fun out r => insK r out) []

def signK (r : Key) (out : List Key) : Nat → Int := fun j => match out[j]? with
  | some x => r.c x
  | none => 0

theorem signK_at {r x : Key} {out : List Key} {j : Nat} (h : out[j]? = some x) : signK r out j = r.c x := by unfold signK; rw [h]

theorem insK_at (r : Key) : ∀ (out : List Key) (g : Nat), g ≤ out.length → (∀ (j : Nat) (x : Key), j < g → out[j]? = some x → 0 < r.c x) → (∀ x, out[g]? = some x → r.c x < 0) → insK r out = out.take g ++ r :: out.drop g
  | [], g, hg, _, _ => by
    obtain rfl : g = 0 := by simpa using hg
    rfl
  | x :: l, 0, _, _, h => by
    have := h x rfl
    simp [insK, this]
  | x :: l, g + 1, hg, ha, hb => by
    have h1 := ha 0 x (by omega) rfl
    have h2 : ¬ r.c x < 0 := by omega
    rw [insK, if_neg h2, insK_at r l g (by simpa using hg) (fun j y hj hy => ha (j + 1) y (by omega) (by simpa using hy)) (fun y hy => hb y (by simpa using hy))]
    simp

theorem insK_pos {r : Key} {out : List Key} {g : Nat} (hp : Pos (signK r out) out.length g false) : insK r out = out.take g ++ r :: out.drop g := by
  refine insK_at r out g hp.le (fun j x hj hx => ?_) (fun x hx => ?_)
  · rw [← signK_at hx]; exact hp.ahead j hj
  · rw [← signK_at hx]; exact hp.miss rfl (List.getElem?_eq_some_iff.1 hx).1

theorem mem_insK {r k : Key} : ∀ {out : List Key}, k ∈ insK r out ↔ k = r ∨ k ∈ out
  | [] => by simp [insK]
  | x :: l => by
    unfold insK
    split
    · simp
    · simp only [List.mem_cons, mem_insK]
      exact ⟨fun h => by rcases h with h | h | h <;> simp [h], fun h => by rcases h with h | h | h <;> simp [h]⟩

theorem length_insK {r : Key} : ∀ {out : List Key}, (insK r out).length = out.length + 1
  | [] => rfl
  | x :: l => by
    unfold insK
    split
    · simp
    · simp [length_insK (r := r) (out := l)]

theorem sortK_snoc (ks : List Key) (r : Key) : sortK (ks ++ [r]) = insK r (sortK ks) := by simp [sortK]

theorem length_sortK (ks : List Key) : (sortK ks).length = ks.length := by
  have h : ∀ (ks out : List Key), (ks.foldl (fun out r => insK r out) out).length = out.length + ks.length := by
    intro ks
    induction ks with
    | nil => intro out; simp
    | cons k ks ih => intro out; simp only [List.foldl_cons, ih, length_insK, List.length_cons]; omega
  have := h ks []
  simpa [sortK] using this

theorem mem_sortK {k : Key} (ks : List Key) : k ∈ sortK ks ↔ k ∈ ks := by
  have h : ∀ (ks out : List Key), k ∈ ks.foldl (fun out r => insK r out) out ↔ k ∈ ks ∨ k ∈ out := by
    intro ks
    induction ks with
    | nil => intro out; simp
    | cons a ks ih =>
      intro out
      simp only [List.foldl_cons, ih, mem_insK, List.mem_cons]
      exact ⟨fun h => by rcases h with h | h | h <;> simp [h], fun h => by rcases h with (h | h) | h <;> simp [h]⟩
  have := h ks []
  simpa [sortK] using this

def Srt (out : List Key) : Prop := out.Pairwise fun a b => a.c b < 0

theorem srt_insK {r : Key} {n : Nat} (hr : r.l.length = n) : ∀ {out : List Key}, Srt out → (∀ x ∈ out, x.l.length = n) → (∀ x ∈ out, r.c x ≠ 0) → Srt (insK r out)
  | [], _, _, _ => by simp [insK, Srt]
  | x :: l, hs, hl, hn => by
    have hx := List.pairwise_cons.1 hs
    have lx := hl x (by simp)
    have nx := hn x (by simp)
    unfold insK
    split
    · rename_i hlt
      refine List.pairwise_cons.2 ⟨fun y hy => ?_, hs⟩
      rcases List.mem_cons.1 hy with rfl | hy
      · exact hlt
      · exact Key.trans (hr.trans lx.symm) (lx.trans (hl y (by simp [hy])).symm) hlt (hx.1 y hy)
    · rename_i hge
      refine List.pairwise_cons.2 ⟨fun y hy => ?_, srt_insK hr hx.2 (fun y hy => hl y (by simp [hy])) (fun y hy => hn y (by simp [hy]))⟩
      rcases mem_insK.1 hy with rfl | hy
      · rw [Key.anti]; omega
      · exact hx.1 y hy

theorem place_srt {r : Key} {n : Nat} (hr : r.l.length = n) {out : List Key} (hs : Srt out) (hl : ∀ x ∈ out, x.l.length = n) (hn : ∀ x ∈ out, r.c x ≠ 0) : ∃ g, Pos (signK r out) out.length g false := by
  have hg : ∀ (j : Nat) (h : j < out.length), signK r out j = r.c out[j] := fun j h => signK_at (List.getElem?_eq_getElem h)
  obtain ⟨g, ok, hp⟩ := pos_exists (signK r out) out.length (fun i j h1 h2 h3 => by
    have hi : i < out.length := by omega
    rw [hg i hi] at h3
    rw [hg j h2]
    have h4 := hn _ (List.getElem_mem hi)
    have h5 := List.pairwise_iff_getElem.1 hs i j hi h2 h1
    exact Key.trans (hr.trans (hl _ (List.getElem_mem hi)).symm) ((hl _ (List.getElem_mem hi)).trans (hl _ (List.getElem_mem h2)).symm) (by omega) h5)
  cases ok with
  | false => exact ⟨g, hp⟩
  | true =>
    have h := hp.hit rfl
    rw [hg g h.1] at h
    exact absurd h.2 (hn _ (List.getElem_mem h.1))

/-- Keys of as many values, no two of one handle. -/
structure KeysOk (ks : List Key) (n : Nat) : Prop where
  len : ∀ x ∈ ks, x.l.length = n
  ne : ∀ (i j : Nat) (a b : Key), i < j → ks[i]? = some a → ks[j]? = some b → a.h ≠ b.h

theorem c_ne {a b : Key} (h : a.h ≠ b.h) : a.c b ≠ 0 := by unfold Key.c; split <;> omega

theorem take_snoc {α : Type} {l : List α} {k : Nat} {r : α} (h : l[k]? = some r) : l.take (k + 1) = l.take k ++ [r] := by
  rw [List.take_add_one, h]; rfl

theorem mem_take_at {α : Type} {l : List α} {k : Nat} {x : α} (h : x ∈ l.take k) : ∃ i, i < k ∧ l[i]? = some x := by
  obtain ⟨i, hi, rfl⟩ := List.getElem_of_mem h
  have h1 : i < k ∧ i < l.length := by simp at hi; omega
  exact ⟨i, h1.1, by rw [List.getElem_take]; exact List.getElem?_eq_getElem h1.2⟩

theorem KeysOk.off {ks : List Key} {n : Nat} (h : KeysOk ks n) {k : Nat} {r : Key} (hr : ks[k]? = some r) : ∀ x ∈ sortK (ks.take k), x.l.length = n ∧ r.c x ≠ 0 := by
  intro x hx
  obtain ⟨i, hi, hx⟩ := mem_take_at ((mem_sortK _).1 hx)
  exact ⟨h.len x (List.mem_of_getElem? hx), c_ne (fun e => h.ne i k x r hi hx hr e.symm)⟩

theorem KeysOk.srt {ks : List Key} {n : Nat} (h : KeysOk ks n) : ∀ (k : Nat), k ≤ ks.length → Srt (sortK (ks.take k))
  | 0, _ => by simp [sortK, Srt]
  | k + 1, hk => by
    have hr : ks[k]? = some ks[k] := List.getElem?_eq_getElem (by omega)
    rw [take_snoc hr, sortK_snoc]
    exact srt_insK (h.len _ (List.mem_of_getElem? hr)) (h.srt k (by omega)) (fun x hx => (h.off hr x hx).1) (fun x hx => (h.off hr x hx).2)

theorem KeysOk.place {ks : List Key} {n : Nat} (h : KeysOk ks n) {k : Nat} {r : Key} (hr : ks[k]? = some r) : ∃ g, Pos (signK r (sortK (ks.take k))) (sortK (ks.take k)).length g false :=
  place_srt (h.len _ (List.mem_of_getElem? hr)) (h.srt k (by have := (List.getElem?_eq_some_iff.1 hr).1; omega)) (fun x hx => (h.off hr x hx).1) (fun x hx => (h.off hr x hx).2)

/-- The place that is found from the end. -/
theorem scan_pos {s : Nat → Int} {n g k : Nat} (hp : Pos s n g false) (hk : k ≤ n) (hd : ∀ j, k ≤ j → j < n → s j < 0) (hs : ∀ i, k = i + 1 → ¬ s i < 0) : k = g := by
  rcases Nat.lt_trichotomy k g with h | h | h
  · have h1 := hp.ahead k h
    have h2 := hd k (Nat.le_refl _) (Nat.lt_of_lt_of_le h hp.le)
    omega
  · exact h
  · obtain ⟨i, rfl⟩ : ∃ i, k = i + 1 := ⟨k - 1, by omega⟩
    refine absurd ?_ (hs i rfl)
    rcases Nat.lt_or_ge g i with h1 | h1
    · exact hp.behind i h1 (by omega)
    · obtain rfl : i = g := by omega
      exact hp.miss rfl (by omega)

end Go.Proofs.YtffgkocokkhahaaGreatDoor

/- An index and the data of its keys: Create, SeekFirst, SeekLast and indexWalk of it. -/
namespace Go.Proofs.YtffgkocokkhahaaGreatDoor
open Go.RowKit

def XE.key (e : XE) : Key := ⟨e.l, e.h⟩
def RowV.key (r : RowV) : Key := ⟨r.us, r.h⟩
def Key.xe (k : Key) : XE := ⟨k.l, none, 0, 0, k.h, 0⟩

/-- An entry whose values lie among D. -/
structure EOk (D : Nat → Prop) (w : World) (e : XE) : Prop where
  len : e.m = e.l.length
  conc : ConcL e.l
  short : e.l.length ≤ 1000
  lo : 0 ≤ e.h
  hi : e.h ≤ 9223372036854775807
  data : ∃ vs, InsD D w e.l e.A vs

theorem EOk.chg {D S : Nat → Prop} {w w' : World} {e : XE} (h : EOk D w e) (hc : Chg S w w') (hn : ∀ k, D k → ¬ S k) : EOk D w' e := by
  obtain ⟨vs, hd⟩ := h.data
  exact ⟨h.len, h.conc, h.short, h.lo, h.hi, vs, hd.chg hc hn⟩
theorem EOk.mono {D E : Nat → Prop} {w : World} {e : XE} (h : EOk D w e) (hn : ∀ k, D k → E k) : EOk E w e := by
  obtain ⟨vs, hd⟩ := h.data
  exact ⟨h.len, h.conc, h.short, h.lo, h.hi, vs, hd.mono hn⟩
theorem EOk.ins {D : Nat → Prop} {w : World} {e : XE} (h : EOk D w e) : Ins w e.l (.slice e.A e.m e.p) := by
  obtain ⟨vs, hd⟩ := h.data
  rw [h.len]
  exact ⟨e.A, e.p, vs, rfl, hd.reads, hd.rep⟩

theorem IdxAt.chg {T S : Nat → Prop} {w w' : World} {x m t n r : Nat} {L : Value} {uni : Bool} {es : List XE} (h : IdxAt w x m t n r L uni S es) (hc : Chg T w w') (hx : ¬ T x) (hm : ¬ T m) (hM : ∀ k, Mut S r L k → ¬ T k) : IdxAt w' x m t n r L uni S es :=
  ⟨heap_chg (show w.heap[x]? = _ from h.idx) hc hx, h.tree.chg hc (fun k hk => hM k (.inl hk)), h.store.chg hc hm (hM r (.inr (.inl rfl))) (fun b hb => hM b (.inr (.inr hb))), h.apart⟩

theorem IdxAt.lt {S : Nat → Prop} {w : World} {x m t n r : Nat} {L : Value} {uni : Bool} {es : List XE} (h : IdxAt w x m t n r L uni S es) : x < w.heap.size ∧ m < w.heap.size ∧ ∀ k, Mut S r L k → k < w.heap.size := by
  have hl := h.store.lt
  refine ⟨lt_of_heap (show w.heap[x]? = _ from h.idx), hl.1, ?_⟩
  rintro k (hk | rfl | hk)
  · exact h.tree.lt k hk
  · exact hl.2.1
  · exact hl.2.2 k hk

/-- An index of so many deeds whose keys, in order, are ks; what changes it changes M alone; its data are D. -/
structure Ix (x : Nat) (n : Nat) (ks : List Key) (M D : Nat → Prop) (w : World) : Prop where
  ex : ∃ m t r L S es, IdxAt w x m t n r L false S es ∧ (∀ k, Mut S r L k ↔ M k) ∧ es.map XE.key = ks ∧ (∀ e ∈ es, EOk D w e) ∧ D m
  self : D x
  data : ∀ k, D k → k < w.heap.size ∧ ¬ M k

theorem Ix.lt {x n : Nat} {ks : List Key} {M D : Nat → Prop} {w : World} (h : Ix x n ks M D w) {k : Nat} (hk : M k) : k < w.heap.size := by
  obtain ⟨m, t, r, L, S, es, hi, hM, _⟩ := h.ex
  exact hi.lt.2.2 k ((hM k).2 hk)

theorem Ix.chg {T : Nat → Prop} {x n : Nat} {ks : List Key} {M D : Nat → Prop} {w w' : World} (h : Ix x n ks M D w) (hc : Chg T w w') (hM : ∀ k, M k → ¬ T k) (hD : ∀ k, D k → ¬ T k) : Ix x n ks M D w' := by
  obtain ⟨m, t, r, L, S, es, hi, hm, he, hk, hdm⟩ := h.ex
  exact ⟨⟨m, t, r, L, S, es, hi.chg hc (hD x h.self) (hD m hdm) (fun k hk => hM k ((hm k).1 hk)), hm, he, fun e h => (hk e h).chg hc hD, hdm⟩, h.self, fun k hk => ⟨Nat.lt_of_lt_of_le (h.data k hk).1 hc.size, (h.data k hk).2⟩⟩

theorem Ix.below {x n : Nat} {ks : List Key} {M D : Nat → Prop} {w w' : World} (h : Ix x n ks M D w) (hb : Below w.heap.size w w') : Ix x n ks M D w' := h.chg (Chg.of_below (S := fun _ => False) hb) (fun _ _ h => h) (fun _ _ h => h)

theorem Ix.more {x n : Nat} {ks : List Key} {M D E : Nat → Prop} {w : World} (h : Ix x n ks M D w) (hE : ∀ k, D k → E k) (hd : ∀ k, E k → k < w.heap.size ∧ ¬ M k) : Ix x n ks M E w := by
  obtain ⟨m, t, r, L, S, es, hi, hm, he, hk, hdm⟩ := h.ex
  exact ⟨⟨m, t, r, L, S, es, hi, hm, he, fun e h => (hk e h).mono hE, hE m hdm⟩, hE x h.self, hd⟩

def IxCreateP (x n : Nat) (ks : List Key) (M D : Nat → Prop) (w : World) (y : Ending) (w' : World) : Prop :=
  y = .returned .nilIface ∧ ∃ M', Ix x n ks M' D w' ∧ Chg M w w' ∧ ∀ k, M' k → M k ∨ w.heap.size ≤ k

theorem map_key_ins {es : List XE} {e : XE} {g : Nat} : (es.take g ++ e :: es.drop g).map XE.key = (es.map XE.key).take g ++ e.key :: (es.map XE.key).drop g := by simp [List.map_take, List.map_drop]

theorem ix_create {x n nn : Nat} {ks : List Key} {M D : Nat → Prop} {w : World} (h : Ix x n ks M D w) {us : List VV} {A : Option Addr} {c : Nat} {hd : Int} {vs : List Value} (hI : InsD D w us A vs) (hu : ConcL us) (h0 : 0 ≤ hd) (h1 : hd ≤ 9223372036854775807) (hn : n ≤ 100000) (hlen : ks.length ≤ 12800)
    (hus : us.length = nn) (hks : ∀ k ∈ ks, k.l.length = nn) (hnn : nn ≤ 1000) {g : Nat} (hp : Pos (signK ⟨us, hd⟩ ks) ks.length g false) :
    Calls Tryz.prog 38 #[.pointer (some ⟨x, 0, none⟩), .slice A us.length c, .int .i64 hd] w (IxCreateP x (n + 1) (insK ⟨us, hd⟩ ks) M D w) := by
  obtain ⟨m, t, r, L, S, es, hi, hm, he, hk, hdm⟩ := h.ex
  have hlk : ks.length = es.length := by rw [← he]; simp
  have hat : ∀ (j : Nat) (e' : XE), es[j]? = some e' → ks[j]? = some e'.key := fun j e' hj => by rw [← he, List.getElem?_map, hj]; rfl
  have hme : ∀ (j : Nat) (e' : XE), es[j]? = some e' → EOk D w e' ∧ e'.l.length = nn := fun j e' hj => ⟨hk e' (List.mem_of_getElem? hj), hks e'.key (List.mem_of_getElem? (hat j e' hj))⟩
  have hcr := create_any x m t n r L S es ⟨us, A, us.length, c, hd, 0⟩ rfl g (fun j => match es[j]? with | some e' => collV us e'.l | none => 0) (signK ⟨us, hd⟩ ks) w hi hn (by omega) h0 h1
    (fun w' hc j e' hj => ⟨(hme j e' hj).1.lo, (hme j e' hj).1.hi, fun w'' hb => by
      have hno : ∀ k, D k → ¬ Mut S r L k := fun k hk hM => (h.data k hk).2 ((hm k).1 hM)
      have hI' := hI.chg hc hno
      have i1 : Ins w' us (.slice A us.length c) := ⟨A, c, vs, rfl, hI'.reads, hI'.rep⟩
      have i2 := ((hme j e' hj).1.chg hc hno).ins
      have := collate_any us e'.l (by rw [hus, (hme j e' hj).2]) (by omega) hu (hme j e' hj).1.conc _ _ w'' (i1.below hb) (i2.below hb)
      simp only [hj]
      exact this⟩)
    (fun j e' hj => by
      simp only [hj]
      rw [signK_at (hat j e' hj), collV_lex us e'.l hu.plain (hme j e' hj).1.conc.plain]
      rfl)
    (by rw [← hlk]; exact hp)
  refine hcr.mono ?_
  rintro y w' ⟨rfl, S', L', hi', hc', hM'⟩
  have hxm : ∀ k, D k → ¬ Mut S r L k := fun k hk hM => (h.data k hk).2 ((hm k).1 hM)
  refine ⟨rfl, Mut S' r L', ⟨⟨m, t, r, L', S', _, hi', fun _ => Iff.rfl, ?_, ?_, hdm⟩, h.self, fun k hk => ⟨Nat.lt_of_lt_of_le (h.data k hk).1 hc'.size, fun hM => ?_⟩⟩, hc'.mono (fun k _ hk => (hm k).1 hk), fun k hk => (hM' k hk).imp (hm k).1 id⟩
  · rw [map_key_ins, he, insK_pos hp]
    rfl
  · intro e' he'
    rcases List.mem_append.1 he' with h' | h'
    · exact (hk e' (List.mem_of_mem_take h')).chg hc' hxm
    · rcases List.mem_cons.1 h' with rfl | h'
      · exact ⟨rfl, hu, by simp only; omega, h0, h1, vs, hI.chg hc' hxm⟩
      · exact (hk e' (List.mem_of_mem_drop h')).chg hc' hxm
  · rcases hM' k hM with h' | h'
    · exact hxm k hk h'
    · have := (h.data k hk).1; omega

/-- Rows that came out, of keys. -/
structure AnsRows (B : Nat) (w : World) (ks : List Key) (R : Value) (rs : List RowV) : Prop where
  len : rs.length = ks.length
  own : w.ownsRow B 65 2 R ks.length (flat RowV.cells rs)
  rows : ∀ (j : Nat) (k : Key) (r : RowV), ks[j]? = some k → rs[j]? = some r → RowOk B w k.xe r

theorem AnsRows.chg {B : Nat} {S : Nat → Prop} {w w' : World} {ks : List Key} {R : Value} {rs : List RowV} (h : AnsRows B w ks R rs) (hc : Chg S w w') (hn : ∀ k, B ≤ k → k < w.heap.size → ¬ S k) : AnsRows B w' ks R rs :=
  ⟨h.len, own_chg h.own hc (fun b hb => hn b (own_ge h.own hb) (own_lt h.own hb)), fun j k r hk hr => (h.rows j k r hk hr).chg hc (fun b hb => hn b (own_ge (h.rows j k r hk hr).own hb) (own_lt (h.rows j k r hk hr).own hb))⟩

def IxWalkP (ks : List Key) (b : Nat) (w : World) (y : Ending) (w' : World) : Prop :=
  ∃ R rs, y = .returned (.agg #[.int .i64 0, .bool false, R]) ∧ AnsRows w.heap.size w' ks R rs ∧ Chg (fun z => z = b) w w'

theorem ixwalk_of {n : Int} {es : List XE} {b : Nat} {w : World} {y : Ending} {w' : World} (h : WalkP n false es b w y w') (hn : (es.length : Int) ≤ n) : IxWalkP (es.map XE.key) b w y w' := by
  obtain ⟨R, k, rs, rfl, hown, hlen, hk, hkn, hke, hrows, hc⟩ := h
  obtain rfl : k = es.length := by omega
  refine ⟨R, rs, rfl, ⟨by simp [hlen], by simpa using hown, fun j key r hkey hr => ?_⟩, hc⟩
  rw [List.getElem?_map] at hkey
  obtain ⟨e, he, rfl⟩ := Option.map_eq_some_iff.1 hkey
  have h := hrows j e r he hr
  exact ⟨h.h, h.len, h.outs, h.own⟩

/-- What an index hands out, and what goes through it then. -/
def IxSeekP (ks : List Key) (N : Int) (nx : Bool) (w : World) (y : Ending) (w1 : World) : Prop :=
  ∃ b, y = .returned (.tuple #[.iface 148 (.pointer (some ⟨b, 0, none⟩)), .nilIface]) ∧ w.heap.size ≤ b ∧ Below w.heap.size w w1 ∧
    ∀ w2, Below w1.heap.size w1 w2 → Calls Tryz.prog 45 #[.iface 148 (.pointer (some ⟨b, 0, none⟩)), .nilIface, .int .i64 N, .bool nx, .bool false] w2 (IxWalkP ks b w2)

theorem enum_lt {w : World} {P : List Pg} {b t : Nat} {ver : Int} {uni : Bool} {E : Value} {g : Nat} (h : AtN P w b t ver uni E g) : b < w.heap.size := by
  cases h with
  | at_ _ _ h => exact lt_of_heap h
  | end_ h => exact lt_of_heap h
theorem enum_ltP {w : World} {P : List Pg} {b t : Nat} {ver : Int} {uni : Bool} {E : Value} {g : Nat} (h : AtP P w b t ver uni E g) : b < w.heap.size := by
  cases h with
  | at_ _ _ h => exact lt_of_heap h
  | end_ h => exact lt_of_heap h

theorem ix_hd {D : Nat → Prop} {w w2 : World} {es : List XE} {b : Nat} (hk : ∀ e ∈ es, EOk D w e) (hb : Below w.heap.size w w2) (hD : ∀ k, D k → ¬ k = b) {fs : List XE} (hf : ∀ e ∈ fs, e ∈ es) :
    Hid (∀ (k : Nat) (x : XE) (w1 : World), Chg (fun x => x = b) w2 w1 → fs[k]? = some x → Calls Tryz.prog 56 #[.slice x.A x.m x.p] w1 (OutsPost x.l w1)) := by
  refine Lib.hid fun k x w1 hc hx => ?_
  have h := ((hk x (hf x (List.mem_of_getElem? hx))).chg (Chg.of_below (S := fun _ => False) hb) (fun _ _ h => h)).chg hc hD
  obtain ⟨vs, hd⟩ := h.data
  rw [h.len]
  exact outs_any x.l x.A x.p vs w1 hd.reads hd.rep h.conc.good (by have := h.short; omega)

theorem ix_first {x n : Nat} {ks : List Key} {M D : Nat → Prop} {w : World} (h : Ix x n ks M D w) {E : Value} (hE : HasEof w E) {N : Int} (hN : (ks.length : Int) ≤ N) (hN1 : N ≤ 1000000) (hks : ks ≠ []) :
    Calls Tryz.prog 44 #[.pointer (some ⟨x, 0, none⟩)] w (IxSeekP ks N true w) := by
  obtain ⟨m, t, r, L, S, es, hi, hm, he, hk, hdm⟩ := h.ex
  obtain ⟨P, c, rt, ver, hP, hP0, hch, hsz, ht, hPS, hSt⟩ := tree_pages hi.tree (by rintro rfl; exact hks he.symm)
  refine (first_at (E := E) hch hsz hP0 ht hi.idx).mono ?_
  rintro y w1 ⟨b, rfl, hat, hlo, hb⟩
  refine ⟨b, rfl, hlo, hb, fun w2 hb2 => ?_⟩
  have hb02 := up_below' hb hb2
  have hno : ∀ k, k < w.heap.size → ¬ k = b := fun k hk e => by omega
  have hcF : Chg (fun _ => False) w w2 := Chg.of_below hb02
  have lb1 := enum_lt hat
  have hw := walk_first (P := P) (b := b) (t := t) (ver := ver) (E := E) (w := w2) (n := N) (hit := false) (by omega) hN1 (chain_chg hch hcF (fun _ _ h => h)) hsz (fun p hp => hno _ (chain_lt hch p hp)) (ht.chg hcF id) (hno t (lt_of_heap ht)) (hE.below hb02) (hno _ hE.lt)
    (hat.chg (Chg.of_below (S := fun _ => False) hb2) id) (Nat.lt_of_lt_of_le lb1 hb2.size) (ix_hd hk hb02 (fun k hk => hno k (h.data k hk).1) (fun e he' => by rw [hP] at he'; exact he'))
  refine hw.mono ?_
  intro y w' hP'
  rw [hP] at hP'
  have := ixwalk_of hP' (by rw [← he] at hN; simpa using hN)
  rw [he] at this
  exact this

theorem ix_last {x n : Nat} {ks : List Key} {M D : Nat → Prop} {w : World} (h : Ix x n ks M D w) {E : Value} (hE : HasEof w E) {N : Int} (hN : (ks.length : Int) ≤ N) (hN1 : N ≤ 1000000) (hks : ks ≠ []) :
    Calls Tryz.prog 46 #[.pointer (some ⟨x, 0, none⟩)] w (IxSeekP ks.reverse N false w) := by
  obtain ⟨m, t, r, L, S, es, hi, hm, he, hk, hdm⟩ := h.ex
  obtain ⟨P, c, rt, ver, hP, hP0, hch, hsz, ht, hPS, hSt⟩ := tree_pages hi.tree (by rintro rfl; exact hks he.symm)
  refine (last_at (E := E) hch hsz hP0 ht hi.idx).mono ?_
  rintro y w1 ⟨b, rfl, hat, hlo, hb⟩
  refine ⟨b, rfl, hlo, hb, fun w2 hb2 => ?_⟩
  have hb02 := up_below' hb hb2
  have hno : ∀ k, k < w.heap.size → ¬ k = b := fun k hk e => by omega
  have hcF : Chg (fun _ => False) w w2 := Chg.of_below hb02
  have lb1 := enum_ltP hat
  have hw := walk_last (P := P) (b := b) (t := t) (ver := ver) (E := E) (w := w2) (n := N) (hit := false) (by omega) hN1 (chain_chg hch hcF (fun _ _ h => h)) hsz (fun p hp => hno _ (chain_lt hch p hp)) (ht.chg hcF id) (hno t (lt_of_heap ht)) (hE.below hb02) (hno _ hE.lt)
    (hat.chg (Chg.of_below (S := fun _ => False) hb2) id) (Nat.lt_of_lt_of_le lb1 hb2.size) (ix_hd hk hb02 (fun k hk => hno k (h.data k hk).1) (fun e he' => by rw [hP] at he'; simpa using he'))
  refine hw.mono ?_
  intro y w' hP'
  rw [hP] at hP'
  have := ixwalk_of hP' (by rw [← he] at hN; simpa using hN)
  rw [List.map_reverse, he] at this
  exact this

end Go.Proofs.YtffgkocokkhahaaGreatDoor

/- Lists of rows in memory. -/
namespace Go.Proofs.YtffgkocokkhahaaGreatDoor
open Go.RowKit

theorem RowV.two (r : RowV) : r.cells.length = 2 := rfl
theorem VV.five (x : VV) : x.cells.length = 5 := rfl

theorem add_off (a : Addr) (k j : Nat) (hj : j ≠ 0) : a.add (k + j) = ⟨(a.add k).block, (a.add k).off + j, none⟩ := by
  unfold Addr.add
  by_cases hk : k = 0
  · subst hk
    rw [if_neg (by omega), if_pos rfl, Nat.zero_add]
  · rw [if_neg (by omega), if_neg hk, Nat.add_assoc]

/-- Rows lie in memory, each with its values. -/
def RowsAt (w : World) (A : Option Addr) (rows : List RowV) : Prop :=
  ∀ (i : Nat) (r : RowV), rows[i]? = some r → (∃ ad, A = some ad ∧ (ad.add (i * 2)).block < w.heap.size ∧ w.cell? (ad.add (i * 2)) = some (.slice r.A r.us.length r.c) ∧ w.cell? ⟨(ad.add (i * 2)).block, (ad.add (i * 2)).off + 1, none⟩ = some (.int .i64 r.h)) ∧ LAt w r.A r.us

theorem RowsAt.below {w w' : World} {A : Option Addr} {rows : List RowV} (h : RowsAt w A rows) (hb : Below w.heap.size w w') : RowsAt w' A rows := by
  intro i r hr
  obtain ⟨⟨ad, rfl, hlt, h0, h1⟩, hl⟩ := h i r hr
  refine ⟨⟨ad, rfl, Nat.lt_of_lt_of_le hlt hb.size, ?_, ?_⟩, hl.below hb⟩
  all_goals (rw [hb.cell (by exact hlt)]; assumption)

theorem lat_reads {w : World} {A : Option Addr} {l : List VV} {n : Nat} (h : Reads w w.heap.size 5 A n (flat VV.cells l)) (hn : l.length = n) : LAt w A l := by
  intro i x hx
  have hi := (List.getElem?_eq_some_iff.1 hx).1
  obtain ⟨ad, rfl, hlt, hc⟩ := h.2 (by omega)
  have hat : ∀ (j : Nat) (v : Value), j < 5 → x.cells[j]? = some v → w.cell? (ad.add (i * 5 + j)) = some v := fun j v hj hv => hc _ _ (flat_at VV.cells 5 VV.five l i x j v hx hj hv)
  refine ⟨ad, rfl, by rw [block_add]; exact hlt, hat 0 _ (by omega) rfl, ?_, ?_, ?_, ?_⟩
  · rw [← add_off ad (i * 5) 1 (by decide)]; exact hat 1 _ (by omega) rfl
  · rw [← add_off ad (i * 5) 2 (by decide)]; exact hat 2 _ (by omega) rfl
  · rw [← add_off ad (i * 5) 3 (by decide)]; exact hat 3 _ (by omega) rfl
  · rw [← add_off ad (i * 5) 4 (by decide)]; exact hat 4 _ (by omega) rfl

theorem lat_own {w : World} {B n c : Nat} {e : TypeId} {A : Option Addr} {l : List VV} (h : w.ownsRow B e 5 (.slice A n c) n (flat VV.cells l)) (hn : l.length = n) : LAt w A l := lat_reads (Reads.of_own h) hn

theorem rows_reads {w : World} {A : Option Addr} {rows : List RowV} {n : Nat} (h : Reads w w.heap.size 2 A n (flat RowV.cells rows)) (hn : rows.length = n) (hv : ∀ (i : Nat) (r : RowV), rows[i]? = some r → LAt w r.A r.us) : RowsAt w A rows := by
  intro i r hr
  have hi := (List.getElem?_eq_some_iff.1 hr).1
  obtain ⟨ad, rfl, hlt, hc⟩ := h.2 (by omega)
  have hat : ∀ (j : Nat) (v : Value), j < 2 → r.cells[j]? = some v → w.cell? (ad.add (i * 2 + j)) = some v := fun j v hj hv => hc _ _ (flat_at RowV.cells 2 RowV.two rows i r j v hr hj hv)
  refine ⟨⟨ad, rfl, by rw [block_add]; exact hlt, hat 0 _ (by omega) rfl, ?_⟩, hv i r hr⟩
  rw [← add_off ad (i * 2) 1 (by decide)]; exact hat 1 _ (by omega) rfl

theorem rows_own {w : World} {B n c : Nat} {e : TypeId} {A : Option Addr} {rows : List RowV} (h : w.ownsRow B e 2 (.slice A n c) n (flat RowV.cells rows)) (hn : rows.length = n) (hv : ∀ (i : Nat) (r : RowV), rows[i]? = some r → LAt w r.A r.us) : RowsAt w A rows := rows_reads (Reads.of_own h) hn hv

/-- A row whose fields are those of its types. -/
structure RowRng (r : RowV) : Prop where
  vals : ∀ (j : Nat) (x : VV), r.us[j]? = some x → Rng x.n x.u x.f
  len : r.us.length ≤ maxLen
  h : (Lit.int .i64 r.h).wf = true

theorem RowRng.hi {r : RowV} (h : RowRng r) : r.h ≤ 9223372036854775807 := by
  have hn := h.h
  simp only [Lit.wf, Bool.and_eq_true, decide_eq_true_eq, IntKind.min, IntKind.max, IntKind.signed, IntKind.bits, if_true, Nat.reduceSub, Int.reducePow, Int.reduceSub, Int.reduceNeg] at hn
  exact hn.2

/-- Rows that came out lie in memory. -/
theorem AnsRows.at_ {B : Nat} {w : World} {ks : List Key} {A : Option Addr} {n c : Nat} {rs : List RowV} (h : AnsRows B w ks (.slice A n c) rs) : RowsAt w A rs ∧ n = rs.length := by
  have hn : n = ks.length := by
    obtain ⟨A', c', e⟩ := own_form h.own
    injection e
  refine ⟨rows_own (n := n) (c := c) (by have := h.own; rw [← hn] at this; exact this) (by rw [h.len, hn]) (fun i r hr => ?_), by rw [h.len, hn]⟩
  have hi := (List.getElem?_eq_some_iff.1 hr).1
  have hi2 : i < ks.length := by rw [← h.len]; exact hi
  have := h.rows i ks[i] r (List.getElem?_eq_getElem hi2) hr
  exact lat_own this.own rfl

end Go.Proofs.YtffgkocokkhahaaGreatDoor
