/-
  impl.indexDeed: "create" of a row. || A unique index and the data of its keys: Create of it. || impl.indexDeed: "first" and "last". || impl.indexDeed: "create" of a row of a unique index. PRINTED BY wip/tpl/gen_xuf.py. || A unique index from its first entry on.
-/
import Derived.Test.YtffgkocokkhahaaDoorIxu22
import Derived.Deep.RegionHeld3
import Derived.Test.YtffgkocokkhahaaDoorIxu19

/- impl.indexDeed: "create" of a row. -/
namespace Go.Proofs.YtffgkocokkhahaaDoor
open Go.RowKit

theorem insD_of {B : Nat} {w : World} {us : List VV} {A : Option Addr} {vs : List Value} (hr : Reads w w.heap.size 1 A us.length vs) (hk : RepK w us us.length vs) (hrow : ∀ ad, A = some ad → B ≤ ad.block) (hval : ∀ (j : Nat) (v : Value), vs[j]? = some v → From B v) (h0 : 0 < us.length) :
    InsD (fun k => B ≤ k ∧ k < w.heap.size) w us A vs := by
  refine ⟨hr, hk, fun ad e => ⟨hrow ad e, ?_⟩, fun j v hv t a n c e => ⟨hval j v hv t a n c e, ?_⟩⟩
  · obtain ⟨ad', e', hlt, _⟩ := hr.2 h0
    rw [e] at e'
    obtain rfl := Option.some.inj e'
    exact hlt
  · have hj : j < us.length := by
      have := (List.getElem?_eq_some_iff.1 hv).1
      rw [hk.1] at this
      exact this
    obtain ⟨y, _, hy⟩ := hk.2 j _ v (List.getElem?_eq_getElem hj) hv
    exact rep_lt hy e

def DeedCreateP (x n : Nat) (ks : List Key) (M D : Nat → Prop) (w : World) (y : Ending) (w' : World) : Prop :=
  y = .returned (.agg #[.int .i64 0, .bool false, .slice none 0 0]) ∧ ∃ M' D', Ix x n ks M' D' w' ∧ Chg M w w' ∧ (∀ k, D k → D' k) ∧ (∀ k, M' k → M k ∨ w.heap.size ≤ k) ∧ ∀ k, D' k → D k ∨ w.heap.size ≤ k

theorem deed_fin {x n : Nat} {ks ks' : List Key} {M M' D : Nat → Prop} {w w1 w2 W : World} {B : Nat} (HIX : Ix x n ks M D w) (HB1 : Below w.heap.size w w1) (HX2 : Ix x (n + 1) ks' M' (fun k => D k ∨ (B ≤ k ∧ k < w1.heap.size)) w2) (HC2 : Chg M w1 w2) (HM2 : ∀ k, M' k → M k ∨ w1.heap.size ≤ k) (hB : w.heap.size + 2 ≤ B) (hB1 : B ≤ w1.heap.size) (hW : Chg (fun k => k = w.heap.size + 1) w2 W) :
    ∃ M' D', Ix x (n + 1) ks' M' D' W ∧ Chg M w W ∧ (∀ k, D k → D' k) ∧ (∀ k, M' k → M k ∨ w.heap.size ≤ k) ∧ ∀ k, D' k → D k ∨ w.heap.size ≤ k := by
  have hs := HB1.size
  refine ⟨M', fun k => D k ∨ (B ≤ k ∧ k < w1.heap.size), HX2.chg hW (fun k hk e => ?_) (fun k hk e => ?_), ?_, fun k h => .inl h, fun k hk => (HM2 k hk).imp id (fun h => by omega), fun k hk => hk.imp id (fun h => by omega)⟩
  · rcases HM2 k hk with h | h
    · have := HIX.lt h; omega
    · omega
  · rcases hk with h | h
    · have := (HIX.data k h).1; omega
    · omega
  · exact ((Chg.of_below HB1).next HC2 (fun k _ h => h)).next hW (fun k h e => by omega)

set_option maxRecDepth 100000 in
set_option maxHeartbeats 3200000 in
theorem deed_create {x n nn : Nat} {ks : List Key} {M D : Nat → Prop} {w : World} (h : Ix x n ks M D w) {us : List VV} {A : Option Addr} {c : Nat} {hd N : Int} (hA : LAt w A us) (hu : ConcL us) (h0 : 0 ≤ hd) (h1 : hd ≤ 9223372036854775807) (hn : n ≤ 100000) (hlen : ks.length ≤ 12800)
    (hus : us.length = nn) (hks : ∀ k ∈ ks, k.l.length = nn) (hnn : nn ≤ 1000) (hn0 : 0 < nn) {g : Nat} (hp : Pos (signK ⟨us, hd⟩ ks) ks.length g false) :
    Calls Tryd.prog 27 #[.pointer (some ⟨x, 0, none⟩), .agg #[.string ⟨#[99, 114, 101, 97, 116, 101]⟩, .slice A us.length c, .int .i64 hd, .int .i64 N]] w (DeedCreateP x (n + 1) (insK ⟨us, hd⟩ ks) M D w) := by
  have HIX := Lib.hid h
  have HI : Hid (∀ w', Below w.heap.size w w' → Calls Tryd.prog 29 #[.slice A us.length c] w' (InsPost2 us w')) := Lib.hid (fun w' hb => ins2_all us A c w' (hA.below hb) hu.good (by omega))
  have HC : Hid (∀ (D' : Nat → Prop) (w' : World) (A' : Option Addr) (c' : Nat) (vs : List Value), Ix x n ks M D' w' → InsD D' w' us A' vs → Calls Tryd.prog 54 #[.pointer (some ⟨x, 0, none⟩), .slice A' us.length c', .int .i64 hd] w' (IxCreateP x (n + 1) (insK ⟨us, hd⟩ ks) M D' w')) :=
    Lib.hid (fun D' w' A' c' vs hix hI => ix_create hix hI hu h0 h1 hn hlen hus hks hnn hp)
  have HN : Hid (0 < us.length) := Lib.hid (by omega)
  clear h hA hu h0 h1 hn hlen hus hks hnn hn0 hp
  go_enter_defers Tryd.func27, Tryd.ntmps27
  go_wp2_with fail
  obtain ⟨W0, hW0⟩ : ∃ W0, W0 = (w.alloc (.cells #[.string ⟨#[99, 114, 101, 97, 116, 101]⟩, .slice A us.length c, .int .i64 hd, .int .i64 N] 43)).alloc (.cells #[.int .i64 0, .bool false, .slice none 0 0] 52) := ⟨_, rfl⟩
  rw [← hW0]
  have HK0 : Hid (W0.heap[w.heap.size]? = some (.cells #[.string ⟨#[99, 114, 101, 97, 116, 101]⟩, .slice A us.length c, .int .i64 hd, .int .i64 N] 43 (0, 0))) := Lib.hid (by rw [hW0]; exact (heap_alloc_ne _ _ _ (by simp)).trans (heap_new w _))
  have HR0 : Hid (W0.heap[w.heap.size + 1]? = some (.cells #[.int .i64 0, .bool false, .slice none 0 0] 52 (0, 0))) := Lib.hid (by rw [hW0]; have := heap_new (w.alloc (.cells #[.string ⟨#[99, 114, 101, 97, 116, 101]⟩, .slice A us.length c, .int .i64 hd, .int .i64 N] 43)) (.cells #[.int .i64 0, .bool false, .slice none 0 0] 52); simpa using this)
  have HB0 : Hid (Below w.heap.size w W0) := Lib.hid (hW0 ▸ below_al2 w _ _)
  have hs0 : W0.heap.size = w.heap.size + 2 := by rw [hW0]; simp
  have j1 := cell_of_heap HK0.out 1
  have j2 := cell_of_heap HK0.out 2
  clear hW0
  refine wp_region_noPanic ?_
  go_region_law
    (first
      | (go_simp; go_at_call 29
         refine (HI.out _ (by first | exact HB0.out | exact HB0.out.drew)).mono ?_
         rintro y w1 ⟨A1, c1, vs, rfl, hr1, hk1, hb1', hrow1, hval1⟩
         have hb1 : Below W0.heap.size W0 w1 := (by first | exact hb1' | exact ⟨hb1'.os, hb1'.tape, hb1'.output, hb1'.size, hb1'.block⟩)
         have HK1 := Lib.hid (heap_below HK0.out hb1)
         have HR1 := Lib.hid (heap_below HR0.out hb1)
         have HB1 : Hid (Below w.heap.size w w1) := Lib.hid (up_below HB0.out (Nat.le_refl _) hb1)
         have hs1 : w.heap.size + 2 ≤ w1.heap.size := lt_of_heap HR1.out
         have hX1 : Ix x n ks M (fun k => D k ∨ (w.heap.size + 2 ≤ k ∧ k < w1.heap.size)) w1 := (HIX.out.below HB1.out).more (fun k h => .inl h) (fun k hk => by
           rcases hk with hk | hk
           · exact ⟨Nat.lt_of_lt_of_le (HIX.out.data k hk).1 HB1.out.size, (HIX.out.data k hk).2⟩
           · exact ⟨hk.2, fun hM => by have := HIX.out.lt hM; omega⟩)
         have HX1 := Lib.hid hX1
         have hI1 : InsD (fun k => W0.heap.size ≤ k ∧ k < w1.heap.size) w1 us A1 vs := insD_of hr1 hk1 (fun ad e => hrow1 ad e) (fun j v hv => hval1 j v hv) HN.out
         have HI1 := Lib.hid (hI1.mono (E := fun k => D k ∨ (w.heap.size + 2 ≤ k ∧ k < w1.heap.size)) (fun k h => .inr (by omega)))
         have k2 := cell_of_heap HK1.out 2
         clear hX1 hI1 hr1 hk1 hb1 hb1' hrow1 hval1)
      | (go_simp; go_at_call 54
         refine (HC.out _ _ A1 c1 vs HX1.out HI1.out).mono ?_
         rintro y w2 ⟨rfl, M', hx2, hc2, hm2⟩
         have HX2 := Lib.hid hx2
         have HC2 := Lib.hid hc2
         have HM2 := Lib.hid hm2
         have HR2 := Lib.hid (heap_chg HR1.out hc2 (fun hM => absurd (HIX.out.lt hM) (by omega)))
         have r0 := cell_of_heap HR2.out 0
         have r1 := cell_of_heap HR2.out 1
         have r2 := cell_of_heap HR2.out 2
         have f0 := free_of_heap HR2.out 0
         have f1 := free_of_heap HR2.out 1
         have f2 := free_of_heap HR2.out 2
         clear hx2 hc2 hm2)
      | (go_simp; go_at_call 53
         refine (zzErr_nil _).mono ?_
         rintro y w3 ⟨rfl, rfl⟩))
  all_goals
    refine NoPanic.normal ?_
    go_wp2
    obtain ⟨W, hW⟩ : ∃ W, W = (((w2.setCell ⟨w.heap.size + 1, 0, none⟩ (.int .i64 0)).setCell ⟨w.heap.size + 1, 0, none⟩ (.int .i64 0)).setCell ⟨w.heap.size + 1, 1, none⟩ (.bool false)).setCell ⟨w.heap.size + 1, 2, none⟩ (.slice none 0 0) := ⟨_, rfl⟩
    rw [← hW]
    have hh : W.heap[w.heap.size + 1]? = some (.cells #[.int .i64 0, .bool false, .slice none 0 0] 52 (0, 0)) := by rw [hW, heap_setCell_at, heap_setCell_at, heap_setCell_at, heap_setCell_at, HR2.out]; rfl
    have d0 : W.cell? ⟨w.heap.size + 1, 0, none⟩ = some (.int .i64 0) := cell_of_heap hh 0
    have d1 : W.cell? ⟨w.heap.size + 1, 1, none⟩ = some (.bool false) := cell_of_heap hh 1
    have d2 : W.cell? ⟨w.heap.size + 1, 2, none⟩ = some (.slice none 0 0) := cell_of_heap hh 2
    have hc : Chg (fun k => k = w.heap.size + 1) w2 W := hW ▸ ((((Chg.refl (fun k => k = w.heap.size + 1) w2).setCell (p := ⟨w.heap.size + 1, _, none⟩) (.inl rfl) _).setCell (p := ⟨w.heap.size + 1, _, none⟩) (.inl rfl) _).setCell (p := ⟨w.heap.size + 1, _, none⟩) (.inl rfl) _).setCell (p := ⟨w.heap.size + 1, _, none⟩) (.inl rfl) _
    refine leaves_cons (f := 52) (args := #[.pointer (some ⟨w.heap.size + 1, 0, none⟩)]) (by simp) (by simp [go_sem]) ?_
    refine (fault_idle _ _).mono ?_
    rintro e u' w'' ⟨rfl, rfl, rfl⟩
    simp [Leaves, settle, results, Tryd.results27, go_sem, d0, d1, d2]
    exact ⟨rfl, deed_fin HIX.out HB1.out HX2.out HC2.out HM2.out (Nat.le_refl _) hs1 hc⟩

end Go.Proofs.YtffgkocokkhahaaDoor

/- A unique index and the data of its keys: Create of it. -/
namespace Go.Proofs.YtffgkocokkhahaaDoor
open Go.RowKit

/-- NULL. -/
def isNul (x : VV) : Bool := x.k.toList == []

theorem rep_nul {w : World} {x : VV} {y : SV} {v : Value} (hc : x.conc = true) (hi : x.is y) (h : Rep w y v) : (isNul x = true → v = .nilIface) ∧ (isNul x = false → ∃ t u, v = .iface t u) := by
  replace h : Rep w x.sv v := (rep_conc hc hi h).1
  refine ⟨fun hn => ?_, fun hn => ?_⟩
  · have hk : x.k.toList = [] := by unfold isNul at hn; simpa using hn
    have e : x.sv = .null := by unfold VV.sv; rw [hk]; rfl
    rw [e] at h
    exact h
  · rcases rep_form h with rfl | h
    · exfalso
      have e : x.sv = .null := by
        cases hs : x.sv with
        | null => rfl
        | _ => rw [hs] at h; first | (cases h; done) | (obtain ⟨_, _, h, _⟩ := h; cases h)
      have hk : Kd.of x.k.toList = .null := by
        unfold VV.sv at e
        cases hd : Kd.of x.k.toList with
        | null => rfl
        | other =>
          have hv : validB (Kd.of x.k.toList) x.n x.u x.f x.s = true := conc_valid hc
          rw [hd] at hv
          simp [validB] at hv
        | _ => rw [hd] at e; simp [toSV] at e
      have hl := Kd.of_lit _ hk (by simp)
      unfold isNul at hn
      rw [hl] at hn
      cases hn
    · exact h

/-- A key of a unique index: no value, or one that is not NULL and lies among D. -/
def KOk (D : Nat → Prop) (w : World) (us : List VV) (A : Option Addr) (m p : Nat) : Prop :=
  (us = [] ∧ A = none ∧ m = 0 ∧ p = 0) ∨ ∃ x ad vs, us = [x] ∧ A = some ad ∧ m = 1 ∧ ConcL [x] ∧ isNul x = false ∧ InsD D w [x] (some ad) vs

theorem KOk.chg {D S : Nat → Prop} {w w' : World} {us : List VV} {A : Option Addr} {m p : Nat} (h : KOk D w us A m p) (hc : Chg S w w') (hn : ∀ k, D k → ¬ S k) : KOk D w' us A m p := by
  rcases h with h | ⟨x, ad, vs, h1, h2, h3, h4, h5, h6⟩
  · exact .inl h
  · exact .inr ⟨x, ad, vs, h1, h2, h3, h4, h5, h6.chg hc hn⟩
theorem KOk.below {D : Nat → Prop} {w w' : World} {us : List VV} {A : Option Addr} {m p : Nat} (h : KOk D w us A m p) (hb : Below w.heap.size w w') : KOk D w' us A m p := h.chg (Chg.of_below (S := fun _ => False) hb) (fun _ _ h => h)
theorem KOk.mono {D E : Nat → Prop} {w : World} {us : List VV} {A : Option Addr} {m p : Nat} (h : KOk D w us A m p) (hn : ∀ k, D k → E k) : KOk E w us A m p := by
  rcases h with h | ⟨x, ad, vs, h1, h2, h3, h4, h5, h6⟩
  · exact .inl h
  · exact .inr ⟨x, ad, vs, h1, h2, h3, h4, h5, h6.mono hn⟩
theorem KOk.few {D : Nat → Prop} {w : World} {us : List VV} {A : Option Addr} {m p : Nat} (h : KOk D w us A m p) : us.length ≤ 1 := by
  rcases h with ⟨rfl, _⟩ | ⟨x, ad, vs, rfl, _⟩ <;> simp

theorem kok_collate {D : Nat → Prop} {w : World} {us vs : List VV} {A B : Option Addr} {m p n q : Nat} (h1 : KOk D w us A m p) (h2 : KOk D w vs B n q) : Calls Tryd.prog 65 #[.slice A m p, .slice B n q] w (ColP (ucoll us vs) w) := by
  rcases h1 with ⟨rfl, rfl, rfl, rfl⟩ | ⟨x, ad, as', rfl, rfl, rfl, hx, _, hI⟩
  · rcases h2 with ⟨rfl, rfl, rfl, rfl⟩ | ⟨y, bd, bs, rfl, rfl, rfl, hy, _, hJ⟩
    · exact collate_none none none 0 0 w
    · exact collate_nil_one (some bd) 1 q (by omega) w
  · rcases h2 with ⟨rfl, rfl, rfl, rfl⟩ | ⟨y, bd, bs, rfl, rfl, rfl, hy, _, hJ⟩
    · exact collate_one_nil (some ad) 1 p (by omega) w
    · have h := collate_any [x] [y] rfl (by simp) hx hy (.slice (some ad) 1 p) (.slice (some bd) 1 q) w ⟨some ad, p, as', rfl, hI.reads, hI.rep⟩ ⟨some bd, q, bs, rfl, hJ.reads, hJ.rep⟩
      rw [collV_lex _ _ hx.plain hy.plain] at h
      exact h

structure UEOk (D : Nat → Prop) (w : World) (e : XE) : Prop where
  key : KOk D w e.l e.A e.m e.p
  lo : 0 ≤ e.h
  hi : e.h ≤ 9223372036854775807

/-- A unique index of so many deeds whose keys, in order, are ks. -/
structure UIx (x : Nat) (n : Nat) (ks : List Key) (M D : Nat → Prop) (w : World) : Prop where
  ex : ∃ m t r L S es, IdxAt w x m t n r L true S es ∧ (∀ k, Mut S r L k ↔ M k) ∧ es.map XE.key = ks ∧ (∀ e ∈ es, UEOk D w e) ∧ D m
  self : D x
  data : ∀ k, D k → k < w.heap.size ∧ ¬ M k

theorem UIx.lt {x n : Nat} {ks : List Key} {M D : Nat → Prop} {w : World} (h : UIx x n ks M D w) {k : Nat} (hk : M k) : k < w.heap.size := by
  obtain ⟨m, t, r, L, S, es, hi, hM, _⟩ := h.ex
  exact hi.lt.2.2 k ((hM k).2 hk)
theorem UIx.chg {T : Nat → Prop} {x n : Nat} {ks : List Key} {M D : Nat → Prop} {w w' : World} (h : UIx x n ks M D w) (hc : Chg T w w') (hM : ∀ k, M k → ¬ T k) (hD : ∀ k, D k → ¬ T k) : UIx x n ks M D w' := by
  obtain ⟨m, t, r, L, S, es, hi, hm, he, hk, hdm⟩ := h.ex
  exact ⟨⟨m, t, r, L, S, es, hi.chg hc (hD x h.self) (hD m hdm) (fun k hk => hM k ((hm k).1 hk)), hm, he, fun e h => ⟨(hk e h).key.chg hc hD, (hk e h).lo, (hk e h).hi⟩, hdm⟩, h.self, fun k hk => ⟨Nat.lt_of_lt_of_le (h.data k hk).1 hc.size, (h.data k hk).2⟩⟩
theorem UIx.below {x n : Nat} {ks : List Key} {M D : Nat → Prop} {w w' : World} (h : UIx x n ks M D w) (hb : Below w.heap.size w w') : UIx x n ks M D w' := h.chg (Chg.of_below (S := fun _ => False) hb) (fun _ _ h => h) (fun _ _ h => h)
theorem UIx.more {x n : Nat} {ks : List Key} {M D E : Nat → Prop} {w : World} (h : UIx x n ks M D w) (hE : ∀ k, D k → E k) (hd : ∀ k, E k → k < w.heap.size ∧ ¬ M k) : UIx x n ks M E w := by
  obtain ⟨m, t, r, L, S, es, hi, hm, he, hk, hdm⟩ := h.ex
  exact ⟨⟨m, t, r, L, S, es, hi, hm, he, fun e h => ⟨(hk e h).key.mono hE, (hk e h).lo, (hk e h).hi⟩, hE m hdm⟩, hE x h.self, hd⟩

def UCreateP (x n : Nat) (ks : List Key) (M D : Nat → Prop) (w : World) (y : Ending) (w' : World) : Prop :=
  y = .returned .nilIface ∧ ∃ M', UIx x n ks M' D w' ∧ Chg M w w' ∧ ∀ k, M' k → M k ∨ w.heap.size ≤ k

section
variable {x n g : Nat} {ks : List Key} {M D : Nat → Prop} {w : World} {m t r : Nat} {L : Value} {S : Nat → Prop} {es : List XE}

theorem u_asks (hm : ∀ k, Mut S r L k ↔ M k) (hd : ∀ k, D k → k < w.heap.size ∧ ¬ M k) (hk : ∀ e ∈ es, UEOk D w e) {us : List VV} {A : Option Addr} {c p : Nat} (hK : KOk D w us A c p) (w' : World) (hc : Chg (Mut S r L) w w') : Asks w' (.slice A c p) es (fun j => match es[j]? with | some e' => ucoll us e'.l | none => 0) := by
  intro j e hj
  have hno : ∀ k, D k → ¬ Mut S r L k := fun k hk hM => (hd k hk).2 ((hm k).1 hM)
  have he := hk e (List.mem_of_getElem? hj)
  refine ⟨he.lo, he.hi, fun w'' hb => ?_⟩
  simp only [hj]
  exact kok_collate ((hK.chg hc hno).below hb) ((he.key.chg hc hno).below hb)

theorem u_signs {us : List VV} {hd : Int} (he : es.map XE.key = ks) (j : Nat) (e' : XE) (hj : es[j]? = some e') : signU ⟨us, hd⟩ ks j = keyC ((fun j => match es[j]? with | some e' => ucoll us e'.l | none => 0) j) hd e'.h := by
  simp only [hj]
  rw [signU_at (by rw [← he, List.getElem?_map, hj]; rfl : ks[j]? = some e'.key)]
  rfl

theorem u_fin {us : List VV} {A : Option Addr} {c p : Nat} {kh kn : Int} (hm : ∀ k, Mut S r L k ↔ M k) (h : UIx x n ks M D w) (he : es.map XE.key = ks) (hk : ∀ e ∈ es, UEOk D w e) (hdm : D m) (hK : KOk D w us A c p) (h0 : 0 ≤ kh) (h1 : kh ≤ 9223372036854775807) {n' : Nat} {y : Ending} {w' : World}
    (hcr : CreateP x m t n' r L true S (es.take g ++ ⟨us, A, c, p, kh, kn⟩ :: es.drop g) w y w') : UCreateP x n' (ks.take g ++ ⟨us, kh⟩ :: ks.drop g) M D w y w' := by
  obtain ⟨rfl, S', L', hi', hc', hM'⟩ := hcr
  have hxm : ∀ k, D k → ¬ Mut S r L k := fun k hk hM => (h.data k hk).2 ((hm k).1 hM)
  refine ⟨rfl, Mut S' r L', ⟨⟨m, t, r, L', S', _, hi', fun _ => Iff.rfl, ?_, ?_, hdm⟩, h.self, fun k hk => ⟨Nat.lt_of_lt_of_le (h.data k hk).1 hc'.size, fun hM => ?_⟩⟩, hc'.mono (fun k _ hk => (hm k).1 hk), fun k hk => (hM' k hk).imp (hm k).1 id⟩
  · rw [map_key_ins, he]
    rfl
  · have hkeep : ∀ e ∈ es, UEOk D w' e := fun e he => ⟨(hk e he).key.chg hc' hxm, (hk e he).lo, (hk e he).hi⟩
    intro e' he'
    rcases List.mem_append.1 he' with h' | h'
    · exact hkeep e' (List.mem_of_mem_take h')
    · rcases List.mem_cons.1 h' with rfl | h'
      · exact ⟨hK.chg hc' hxm, h0, h1⟩
      · exact hkeep e' (List.mem_of_mem_drop h')
  · rcases hM' k hM with h' | h'
    · exact hxm k hk h'
    · have := (h.data k hk).1; omega
end

section
variable {x n g : Nat} {ks : List Key} {M D : Nat → Prop} {w : World}

theorem uix_null (h : UIx x n ks M D w) {A : Option Addr} {c : Nat} {hd : Int} (h0 : 0 ≤ hd) (h1 : hd ≤ 9223372036854775807) (hn : n ≤ 100000) (hlen : ks.length ≤ 12800) (hr : Reads w w.heap.size 1 A 1 [.nilIface]) (hp : Pos (signU ⟨[], hd⟩ ks) ks.length g false) :
    Calls Tryd.prog 54 #[.pointer (some ⟨x, 0, none⟩), .slice A 1 c, .int .i64 hd] w (UCreateP x (n + 1) (ks.take g ++ ⟨[], hd⟩ :: ks.drop g) M D w) := by
  obtain ⟨m, t, r, L, S, es, hi, hm, he, hk, hdm⟩ := h.ex
  have hlk : ks.length = es.length := by rw [← he]; simp
  have hK : KOk D w [] none 0 0 := .inl ⟨rfl, rfl, rfl, rfl⟩
  refine (create_null x m t n r L S es A c hd g _ (signU ⟨[], hd⟩ ks) w hi hn (by omega) h0 h1 (u_asks hm h.data hk hK) (Lib.hid (null_yes A c w hr)) (u_signs he) (by rw [← hlk]; exact hp)).mono ?_
  intro y w' hP
  exact u_fin hm h he hk hdm hK h0 h1 hP

theorem uix_new (h : UIx x n ks M D w) {u : VV} {ad : Addr} {c : Nat} {hd : Int} {vs : List Value} (hI : InsD D w [u] (some ad) vs) (hu : ConcL [u]) (hnu : isNul u = false) (hn : n ≤ 100000) (hlen : ks.length ≤ 12800) (hnull : Hid (Calls Tryd.prog 86 #[.slice (some ad) 1 c] w fun e w' => e = .returned (.bool false) ∧ w = w')) (hp : Pos (signU ⟨[u], 0⟩ ks) ks.length g false) :
    Calls Tryd.prog 54 #[.pointer (some ⟨x, 0, none⟩), .slice (some ad) 1 c, .int .i64 hd] w (UCreateP x (n + 1) (ks.take g ++ ⟨[u], 0⟩ :: ks.drop g) M D w) := by
  obtain ⟨m, t, r, L, S, es, hi, hm, he, hk, hdm⟩ := h.ex
  have hlk : ks.length = es.length := by rw [← he]; simp
  have hK : KOk D w [u] (some ad) 1 c := .inr ⟨u, ad, vs, rfl, rfl, rfl, hu, hnu, hI⟩
  refine (create_new x m t n r L S es [u] (some ad) c hd g _ (signU ⟨[u], 0⟩ ks) w hi hn (by omega) (u_asks hm h.data hk hK) (u_signs he) (by rw [← hlk]; exact hp) hnull).mono ?_
  intro y w' hP
  exact u_fin hm h he hk hdm hK (by omega) (by omega) hP

theorem uix_dup (h : UIx x n ks M D w) {u : VV} {ad : Addr} {c : Nat} {hd : Int} {vs : List Value} (hI : InsD D w [u] (some ad) vs) (hu : ConcL [u]) (hnu : isNul u = false) (hlen : ks.length ≤ 12800) (hnull : Hid (Calls Tryd.prog 86 #[.slice (some ad) 1 c] w fun e w' => e = .returned (.bool false) ∧ w = w')) (hp : Pos (signU ⟨[u], 0⟩ ks) ks.length g true) :
    Calls Tryd.prog 54 #[.pointer (some ⟨x, 0, none⟩), .slice (some ad) 1 c, .int .i64 hd] w fun y w' => y = .returned (.iface 177 (.slice (some ad) 1 c)) ∧ Below w.heap.size w w' := by
  obtain ⟨m, t, r, L, S, es, hi, hm, he, hk, hdm⟩ := h.ex
  have hlk : ks.length = es.length := by rw [← he]; simp
  have hK : KOk D w [u] (some ad) 1 c := .inr ⟨u, ad, vs, rfl, rfl, rfl, hu, hnu, hI⟩
  have hg : g < es.length := by rw [← hlk]; exact (hp.hit rfl).1
  refine create_dup x m t (some ad) c hd es[g].n w hi.idx hnull (Lib.hid fun w' hb => ?_)
  have hA := u_asks (S := S) (r := r) (L := L) hm h.data hk hK
  exact get_any t es S (some ad) 1 c 0 g true es[g].n _ (signU ⟨[u], 0⟩ ks) w' (hi.tree.chg (Chg.of_below (S := fun _ => False) hb) (fun _ _ h => h)) (by omega) (by omega) (by omega) (hA w' (Chg.of_below hb)) (u_signs he) (by rw [← hlk]; exact hp) (.inr ⟨rfl, es[g], List.getElem?_eq_getElem hg, rfl⟩)
end

end Go.Proofs.YtffgkocokkhahaaDoor

/- impl.indexDeed: "first" and "last". -/
namespace Go.Proofs.YtffgkocokkhahaaDoor
open Go.RowKit

/-- What is told by an index's walk. -/
def SeekW (ks : List Key) (B : Nat) (w : World) (y : Ending) (w' : World) : Prop :=
  ∃ a : AnsV, y = .returned (.agg #[.int .i64 0, .bool false, a.R]) ∧ AnsRows w.heap.size w' ks a.R a.rs ∧ Below B w w'
def SeekG (ks : List Key) (N : Int) (nx : Bool) (w : World) (y : Ending) (w1 : World) : Prop :=
  ∃ it er, y = .returned (.tuple #[it, er]) ∧ Below w.heap.size w w1 ∧ ∀ w2, Below w1.heap.size w1 w2 → Calls Tryd.prog 60 #[it, er, .int .i64 N, .bool nx, .bool false] w2 (SeekW ks w.heap.size w2)

theorem seekG_of {ks : List Key} {N : Int} {nx : Bool} {w : World} {y : Ending} {w1 : World} (h : IxSeekP ks N nx w y w1) : SeekG ks N nx w y w1 := by
  obtain ⟨b, rfl, hlo, hb, hw⟩ := h
  refine ⟨_, _, rfl, hb, fun w2 hb2 => (hw w2 hb2).mono ?_⟩
  rintro y w' ⟨R, rs, rfl, ha, hc⟩
  exact ⟨⟨R, rs⟩, rfl, ha, hc.below (Nat.le_trans hb.size hb2.size) (fun k e => by rw [e]; exact hlo)⟩

theorem ansRows_nil (B : Nat) (w : World) : AnsRows B w [] (.slice none 0 0) [] := ⟨rfl, World.ownsRow_nil _ _ _ _, fun j k r h _ => by simp at h⟩

theorem seekG_none {N : Int} {nx : Bool} {w : World} {E : Value} (hE : HasEof w E) {y : Ending} {w1 : World} (h : y = .returned (.tuple #[.nilIface, E]) ∧ Below w.heap.size w w1) : SeekG [] N nx w y w1 := by
  obtain ⟨rfl, hb⟩ := h
  refine ⟨_, _, rfl, hb, fun w2 hb2 => (walk_none _ E N nx false w2 hE.form).mono ?_⟩
  rintro y w' ⟨rfl, hb3⟩
  exact ⟨⟨.slice none 0 0, []⟩, rfl, ansRows_nil _ _, hb3.mono (Nat.le_trans hb.size hb2.size)⟩

theorem ix_seek_first {x n : Nat} {ks : List Key} {M D : Nat → Prop} {w : World} (h : Ix x n ks M D w) {E : Value} (hE : HasEof w E) {N : Int} (hN : (ks.length : Int) ≤ N) (hN1 : N ≤ 1000000) :
    Calls Tryd.prog 59 #[.pointer (some ⟨x, 0, none⟩)] w (SeekG ks N true w) := by
  by_cases hks : ks = []
  · subst hks
    obtain ⟨m, t, r, L, S, es, hi, hm, he, hk, hdm⟩ := h.ex
    obtain rfl : es = [] := by simpa using he
    obtain ⟨ver, ht, _⟩ := tree_empty hi.tree
    exact (idx_first_none hi.idx ht rfl hE).mono fun y w1 h1 => seekG_none hE h1
  · exact (ix_first h hE hN hN1 hks).mono fun y w1 h1 => seekG_of h1

theorem ix_seek_last {x n : Nat} {ks : List Key} {M D : Nat → Prop} {w : World} (h : Ix x n ks M D w) {E : Value} (hE : HasEof w E) {N : Int} (hN : (ks.length : Int) ≤ N) (hN1 : N ≤ 1000000) :
    Calls Tryd.prog 61 #[.pointer (some ⟨x, 0, none⟩)] w (SeekG ks.reverse N false w) := by
  by_cases hks : ks = []
  · subst hks
    obtain ⟨m, t, r, L, S, es, hi, hm, he, hk, hdm⟩ := h.ex
    obtain rfl : es = [] := by simpa using he
    obtain ⟨ver, ht, _⟩ := tree_empty hi.tree
    exact (idx_last_none hi.idx ht rfl hE).mono fun y w1 h1 => seekG_none hE h1
  · exact (ix_last h hE hN hN1 hks).mono fun y w1 h1 => seekG_of h1

theorem seek_fin {ks : List Key} {w w1 w2 W : World} {R : Value} {rs : List RowV} (hb1 : Below w.heap.size w w1) (hs1 : w.heap.size + 2 ≤ w1.heap.size) (ha : AnsRows w1.heap.size w2 ks R rs) (hb2 : Below w.heap.size w1 w2) (hW : Chg (fun k => k = w.heap.size + 1) w2 W) : AnsRows w.heap.size W ks R rs ∧ Below w.heap.size w W := by
  have h1 : AnsRows w1.heap.size w2 ks (AnsV.mk R rs).R (AnsV.mk R rs).rs := ha
  have h2 := hb2.size
  exact ⟨(h1.keep h1.in_ hW (fun k hk e => by omega)).mono (by omega), (hb1.trans hb2).trans (hW.below (by omega) (fun k e => by omega))⟩

def DeedSeekP (ks : List Key) (w : World) (y : Ending) (w' : World) : Prop := ∃ a : AnsV, y = .returned (.agg #[.int .i64 0, .bool false, a.R]) ∧ AnsRows w.heap.size w' ks a.R a.rs ∧ Below w.heap.size w w'

set_option maxRecDepth 100000 in
set_option maxHeartbeats 3200000 in
theorem deed_first {x : Nat} {ks : List Key} {N : Int} {w : World} (HS : Hid (∀ w', Below w.heap.size w w' → Calls Tryd.prog 59 #[.pointer (some ⟨x, 0, none⟩)] w' (SeekG ks N true w'))) :
    Calls Tryd.prog 27 #[.pointer (some ⟨x, 0, none⟩), .agg #[.string ⟨#[102, 105, 114, 115, 116]⟩, .slice none 0 0, .int .i64 0, .int .i64 N]] w (DeedSeekP ks w) := by
  go_enter_defers Tryd.func27, Tryd.ntmps27
  go_wp2_with (first
    | (go_at_call 59
       refine (HS.out _ (below_al2 w _ _)).mono ?_
       rintro y w1 ⟨it, er, rfl, hb1, hw1⟩
       have HW1 := Lib.hid hw1
       have HK1 : Hid (w1.heap[w.heap.size]? = some (.cells #[.string ⟨#[102, 105, 114, 115, 116]⟩, .slice none 0 0, .int .i64 0, .int .i64 N] 43 (0, 0))) := Lib.hid (heap_below ((heap_alloc_ne _ _ _ (by simp)).trans (heap_new w _)) hb1)
       have HR1 : Hid (w1.heap[w.heap.size + 1]? = some (.cells #[.int .i64 0, .bool false, .slice none 0 0] 52 (0, 0))) := Lib.hid (heap_below (by have := heap_new (w.alloc (.cells #[.string ⟨#[102, 105, 114, 115, 116]⟩, .slice none 0 0, .int .i64 0, .int .i64 N] 43)) (.cells #[.int .i64 0, .bool false, .slice none 0 0] 52); simpa using this) hb1)
       have HB1 : Hid (Below w.heap.size w w1) := Lib.hid (up_below (below_al2 w _ _) (Nat.le_refl _) hb1)
       have hs1 : w.heap.size + 2 ≤ w1.heap.size := lt_of_heap HR1.out
       have k3 := cell_of_heap HK1.out 3
       clear hw1 hb1)
    | (go_at_call 60
       refine (HW1.out _ (Below.refl _ _)).mono ?_
       rintro y w2 ⟨⟨R, rs⟩, rfl, ha2, hb2⟩
       obtain ⟨A', c', hRR⟩ := own_form ha2.own
       simp only at hRR
       subst hRR
       have HA2 := Lib.hid ha2
       have HB2 : Hid (Below (w.heap.size + 2) w1 w2) := Lib.hid (by simpa using hb2)
       have HR2 : Hid (w2.heap[w.heap.size + 1]? = some (.cells #[.int .i64 0, .bool false, .slice none 0 0] 52 (0, 0))) := Lib.hid ((HB2.out.block _ (by omega)).trans HR1.out)
       have r0 := cell_of_heap HR2.out 0
       have r1 := cell_of_heap HR2.out 1
       have r2 := cell_of_heap HR2.out 2
       have f0 := free_of_heap HR2.out 0
       have f1 := free_of_heap HR2.out 1
       have f2 := free_of_heap HR2.out 2
       clear ha2 hb2))
  obtain ⟨W, hW⟩ : ∃ W, W = ((w2.setCell ⟨w.heap.size + 1, 0, none⟩ (.int .i64 0)).setCell ⟨w.heap.size + 1, 1, none⟩ (.bool false)).setCell ⟨w.heap.size + 1, 2, none⟩ (.slice A' ks.length c') := ⟨_, rfl⟩
  rw [← hW]
  have hh : W.heap[w.heap.size + 1]? = some (.cells #[.int .i64 0, .bool false, .slice A' ks.length c'] 52 (0, 0)) := by rw [hW, heap_setCell_at, heap_setCell_at, heap_setCell_at, HR2.out]; rfl
  have d0 : W.cell? ⟨w.heap.size + 1, 0, none⟩ = some (.int .i64 0) := cell_of_heap hh 0
  have d1 : W.cell? ⟨w.heap.size + 1, 1, none⟩ = some (.bool false) := cell_of_heap hh 1
  have d2 : W.cell? ⟨w.heap.size + 1, 2, none⟩ = some (.slice A' ks.length c') := cell_of_heap hh 2
  have hc : Chg (fun k => k = w.heap.size + 1) w2 W := hW ▸ (((Chg.refl (fun k => k = w.heap.size + 1) w2).setCell (p := ⟨w.heap.size + 1, _, none⟩) (.inl rfl) _).setCell (p := ⟨w.heap.size + 1, _, none⟩) (.inl rfl) _).setCell (p := ⟨w.heap.size + 1, _, none⟩) (.inl rfl) _
  refine leaves_cons (f := 52) (args := #[.pointer (some ⟨w.heap.size + 1, 0, none⟩)]) (by simp) (by simp [go_sem]) ?_
  refine (fault_idle _ _).mono ?_
  rintro e u' w'' ⟨rfl, rfl, rfl⟩
  simp [Leaves, settle, results, Tryd.results27, go_sem, d0, d1, d2]
  exact ⟨⟨.slice A' ks.length c', rs⟩, rfl, seek_fin HB1.out hs1 HA2.out (HB2.out.mono (by omega)) hc⟩

set_option maxRecDepth 100000 in
set_option maxHeartbeats 3200000 in
theorem deed_last {x : Nat} {ks : List Key} {N : Int} {w : World} (HS : Hid (∀ w', Below w.heap.size w w' → Calls Tryd.prog 61 #[.pointer (some ⟨x, 0, none⟩)] w' (SeekG ks N false w'))) :
    Calls Tryd.prog 27 #[.pointer (some ⟨x, 0, none⟩), .agg #[.string ⟨#[108, 97, 115, 116]⟩, .slice none 0 0, .int .i64 0, .int .i64 N]] w (DeedSeekP ks w) := by
  go_enter_defers Tryd.func27, Tryd.ntmps27
  go_wp2_with (first
    | (go_at_call 61
       refine (HS.out _ (below_al2 w _ _)).mono ?_
       rintro y w1 ⟨it, er, rfl, hb1, hw1⟩
       have HW1 := Lib.hid hw1
       have HK1 : Hid (w1.heap[w.heap.size]? = some (.cells #[.string ⟨#[108, 97, 115, 116]⟩, .slice none 0 0, .int .i64 0, .int .i64 N] 43 (0, 0))) := Lib.hid (heap_below ((heap_alloc_ne _ _ _ (by simp)).trans (heap_new w _)) hb1)
       have HR1 : Hid (w1.heap[w.heap.size + 1]? = some (.cells #[.int .i64 0, .bool false, .slice none 0 0] 52 (0, 0))) := Lib.hid (heap_below (by have := heap_new (w.alloc (.cells #[.string ⟨#[108, 97, 115, 116]⟩, .slice none 0 0, .int .i64 0, .int .i64 N] 43)) (.cells #[.int .i64 0, .bool false, .slice none 0 0] 52); simpa using this) hb1)
       have HB1 : Hid (Below w.heap.size w w1) := Lib.hid (up_below (below_al2 w _ _) (Nat.le_refl _) hb1)
       have hs1 : w.heap.size + 2 ≤ w1.heap.size := lt_of_heap HR1.out
       have k3 := cell_of_heap HK1.out 3
       clear hw1 hb1)
    | (go_at_call 60
       refine (HW1.out _ (Below.refl _ _)).mono ?_
       rintro y w2 ⟨⟨R, rs⟩, rfl, ha2, hb2⟩
       obtain ⟨A', c', hRR⟩ := own_form ha2.own
       simp only at hRR
       subst hRR
       have HA2 := Lib.hid ha2
       have HB2 : Hid (Below (w.heap.size + 2) w1 w2) := Lib.hid (by simpa using hb2)
       have HR2 : Hid (w2.heap[w.heap.size + 1]? = some (.cells #[.int .i64 0, .bool false, .slice none 0 0] 52 (0, 0))) := Lib.hid ((HB2.out.block _ (by omega)).trans HR1.out)
       have r0 := cell_of_heap HR2.out 0
       have r1 := cell_of_heap HR2.out 1
       have r2 := cell_of_heap HR2.out 2
       have f0 := free_of_heap HR2.out 0
       have f1 := free_of_heap HR2.out 1
       have f2 := free_of_heap HR2.out 2
       clear ha2 hb2))
  obtain ⟨W, hW⟩ : ∃ W, W = ((w2.setCell ⟨w.heap.size + 1, 0, none⟩ (.int .i64 0)).setCell ⟨w.heap.size + 1, 1, none⟩ (.bool false)).setCell ⟨w.heap.size + 1, 2, none⟩ (.slice A' ks.length c') := ⟨_, rfl⟩
  rw [← hW]
  have hh : W.heap[w.heap.size + 1]? = some (.cells #[.int .i64 0, .bool false, .slice A' ks.length c'] 52 (0, 0)) := by rw [hW, heap_setCell_at, heap_setCell_at, heap_setCell_at, HR2.out]; rfl
  have d0 : W.cell? ⟨w.heap.size + 1, 0, none⟩ = some (.int .i64 0) := cell_of_heap hh 0
  have d1 : W.cell? ⟨w.heap.size + 1, 1, none⟩ = some (.bool false) := cell_of_heap hh 1
  have d2 : W.cell? ⟨w.heap.size + 1, 2, none⟩ = some (.slice A' ks.length c') := cell_of_heap hh 2
  have hc : Chg (fun k => k = w.heap.size + 1) w2 W := hW ▸ (((Chg.refl (fun k => k = w.heap.size + 1) w2).setCell (p := ⟨w.heap.size + 1, _, none⟩) (.inl rfl) _).setCell (p := ⟨w.heap.size + 1, _, none⟩) (.inl rfl) _).setCell (p := ⟨w.heap.size + 1, _, none⟩) (.inl rfl) _
  refine leaves_cons (f := 52) (args := #[.pointer (some ⟨w.heap.size + 1, 0, none⟩)]) (by simp) (by simp [go_sem]) ?_
  refine (fault_idle _ _).mono ?_
  rintro e u' w'' ⟨rfl, rfl, rfl⟩
  simp [Leaves, settle, results, Tryd.results27, go_sem, d0, d1, d2]
  exact ⟨⟨.slice A' ks.length c', rs⟩, rfl, seek_fin HB1.out hs1 HA2.out (HB2.out.mono (by omega)) hc⟩

end Go.Proofs.YtffgkocokkhahaaDoor

/- impl.indexDeed: "create" of a row of a unique index. PRINTED BY wip/tpl/gen_xuf.py. -/
namespace Go.Proofs.YtffgkocokkhahaaDoor
open Go.RowKit

def DeedCreateU (x n : Nat) (ks : List Key) (M D : Nat → Prop) (w : World) (y : Ending) (w' : World) : Prop :=
  y = .returned (.agg #[.int .i64 0, .bool false, .slice none 0 0]) ∧ ∃ M' D', UIx x n ks M' D' w' ∧ Chg M w w' ∧ (∀ k, D k → D' k) ∧ (∀ k, M' k → M k ∨ w.heap.size ≤ k) ∧ ∀ k, D' k → D k ∨ w.heap.size ≤ k

theorem deed_fin_u {x n : Nat} {ks ks' : List Key} {M M' D : Nat → Prop} {w w1 w2 W : World} {B : Nat} (HIX : UIx x n ks M D w) (HB1 : Below w.heap.size w w1) (HX2 : UIx x (n + 1) ks' M' (fun k => D k ∨ (B ≤ k ∧ k < w1.heap.size)) w2) (HC2 : Chg M w1 w2) (HM2 : ∀ k, M' k → M k ∨ w1.heap.size ≤ k) (hB : w.heap.size + 2 ≤ B) (hB1 : B ≤ w1.heap.size) (hW : Chg (fun k => k = w.heap.size + 1) w2 W) :
    ∃ M' D', UIx x (n + 1) ks' M' D' W ∧ Chg M w W ∧ (∀ k, D k → D' k) ∧ (∀ k, M' k → M k ∨ w.heap.size ≤ k) ∧ ∀ k, D' k → D k ∨ w.heap.size ≤ k := by
  have hs := HB1.size
  refine ⟨M', fun k => D k ∨ (B ≤ k ∧ k < w1.heap.size), HX2.chg hW (fun k hk e => ?_) (fun k hk e => ?_), ?_, fun k h => .inl h, fun k hk => (HM2 k hk).imp id (fun h => by omega), fun k hk => hk.imp id (fun h => by omega)⟩
  · rcases HM2 k hk with h | h
    · have := HIX.lt h; omega
    · omega
  · rcases hk with h | h
    · have := (HIX.data k h).1; omega
    · omega
  · exact ((Chg.of_below HB1).next HC2 (fun k _ h => h)).next hW (fun k h e => by omega)

set_option maxRecDepth 100000 in
set_option maxHeartbeats 3200000 in
theorem deed_create_u {x n : Nat} {ks ks' : List Key} {M D : Nat → Prop} {w : World} (h : UIx x n ks M D w) {us : List VV} {A : Option Addr} {c : Nat} {hd N : Int} (hA : LAt w A us) (hu : ConcL us) (hus : us.length ≤ 1000) (hn0 : 0 < us.length)
    (HC : Hid (∀ (D' : Nat → Prop) (w' : World) (A' : Option Addr) (c' : Nat) (vs : List Value), UIx x n ks M D' w' → InsD D' w' us A' vs → Calls Tryd.prog 54 #[.pointer (some ⟨x, 0, none⟩), .slice A' us.length c', .int .i64 hd] w' (UCreateP x (n + 1) ks' M D' w'))) :
    Calls Tryd.prog 27 #[.pointer (some ⟨x, 0, none⟩), .agg #[.string ⟨#[99, 114, 101, 97, 116, 101]⟩, .slice A us.length c, .int .i64 hd, .int .i64 N]] w (DeedCreateU x (n + 1) ks' M D w) := by
  have HIX := Lib.hid h
  have HI : Hid (∀ w', Below w.heap.size w w' → Calls Tryd.prog 29 #[.slice A us.length c] w' (InsPost2 us w')) := Lib.hid (fun w' hb => ins2_all us A c w' (hA.below hb) hu.good (by omega))
  have HN : Hid (0 < us.length) := Lib.hid (by omega)
  clear h hA hu hus hn0
  go_enter_defers Tryd.func27, Tryd.ntmps27
  go_wp2_with fail
  obtain ⟨W0, hW0⟩ : ∃ W0, W0 = (w.alloc (.cells #[.string ⟨#[99, 114, 101, 97, 116, 101]⟩, .slice A us.length c, .int .i64 hd, .int .i64 N] 43)).alloc (.cells #[.int .i64 0, .bool false, .slice none 0 0] 52) := ⟨_, rfl⟩
  rw [← hW0]
  have HK0 : Hid (W0.heap[w.heap.size]? = some (.cells #[.string ⟨#[99, 114, 101, 97, 116, 101]⟩, .slice A us.length c, .int .i64 hd, .int .i64 N] 43 (0, 0))) := Lib.hid (by rw [hW0]; exact (heap_alloc_ne _ _ _ (by simp)).trans (heap_new w _))
  have HR0 : Hid (W0.heap[w.heap.size + 1]? = some (.cells #[.int .i64 0, .bool false, .slice none 0 0] 52 (0, 0))) := Lib.hid (by rw [hW0]; have := heap_new (w.alloc (.cells #[.string ⟨#[99, 114, 101, 97, 116, 101]⟩, .slice A us.length c, .int .i64 hd, .int .i64 N] 43)) (.cells #[.int .i64 0, .bool false, .slice none 0 0] 52); simpa using this)
  have HB0 : Hid (Below w.heap.size w W0) := Lib.hid (hW0 ▸ below_al2 w _ _)
  have hs0 : W0.heap.size = w.heap.size + 2 := by rw [hW0]; simp
  have j1 := cell_of_heap HK0.out 1
  have j2 := cell_of_heap HK0.out 2
  clear hW0
  refine wp_region_noPanic ?_
  go_region_law
    (first
      | (go_simp; go_at_call 29
         refine (HI.out _ (by first | exact HB0.out | exact HB0.out.drew)).mono ?_
         rintro y w1 ⟨A1, c1, vs, rfl, hr1, hk1, hb1', hrow1, hval1⟩
         have hb1 : Below W0.heap.size W0 w1 := (by first | exact hb1' | exact ⟨hb1'.os, hb1'.tape, hb1'.output, hb1'.size, hb1'.block⟩)
         have HK1 := Lib.hid (heap_below HK0.out hb1)
         have HR1 := Lib.hid (heap_below HR0.out hb1)
         have HB1 : Hid (Below w.heap.size w w1) := Lib.hid (up_below HB0.out (Nat.le_refl _) hb1)
         have hs1 : w.heap.size + 2 ≤ w1.heap.size := lt_of_heap HR1.out
         have hX1 : UIx x n ks M (fun k => D k ∨ (w.heap.size + 2 ≤ k ∧ k < w1.heap.size)) w1 := (HIX.out.below HB1.out).more (fun k h => .inl h) (fun k hk => by
           rcases hk with hk | hk
           · exact ⟨Nat.lt_of_lt_of_le (HIX.out.data k hk).1 HB1.out.size, (HIX.out.data k hk).2⟩
           · exact ⟨hk.2, fun hM => by have := HIX.out.lt hM; omega⟩)
         have HX1 := Lib.hid hX1
         have hI1 : InsD (fun k => W0.heap.size ≤ k ∧ k < w1.heap.size) w1 us A1 vs := insD_of hr1 hk1 (fun ad e => hrow1 ad e) (fun j v hv => hval1 j v hv) HN.out
         have HI1 := Lib.hid (hI1.mono (E := fun k => D k ∨ (w.heap.size + 2 ≤ k ∧ k < w1.heap.size)) (fun k h => .inr (by omega)))
         have k2 := cell_of_heap HK1.out 2
         clear hX1 hI1 hr1 hk1 hb1 hb1' hrow1 hval1)
      | (go_simp; go_at_call 54
         refine (HC.out _ _ A1 c1 vs HX1.out HI1.out).mono ?_
         rintro y w2 ⟨rfl, M', hx2, hc2, hm2⟩
         have HX2 := Lib.hid hx2
         have HC2 := Lib.hid hc2
         have HM2 := Lib.hid hm2
         have HR2 := Lib.hid (heap_chg HR1.out hc2 (fun hM => absurd (HIX.out.lt hM) (by omega)))
         have r0 := cell_of_heap HR2.out 0
         have r1 := cell_of_heap HR2.out 1
         have r2 := cell_of_heap HR2.out 2
         have f0 := free_of_heap HR2.out 0
         have f1 := free_of_heap HR2.out 1
         have f2 := free_of_heap HR2.out 2
         clear hx2 hc2 hm2)
      | (go_simp; go_at_call 53
         refine (zzErr_nil _).mono ?_
         rintro y w3 ⟨rfl, rfl⟩))
  all_goals
    refine NoPanic.normal ?_
    go_wp2
    obtain ⟨W, hW⟩ : ∃ W, W = (((w2.setCell ⟨w.heap.size + 1, 0, none⟩ (.int .i64 0)).setCell ⟨w.heap.size + 1, 0, none⟩ (.int .i64 0)).setCell ⟨w.heap.size + 1, 1, none⟩ (.bool false)).setCell ⟨w.heap.size + 1, 2, none⟩ (.slice none 0 0) := ⟨_, rfl⟩
    rw [← hW]
    have hh : W.heap[w.heap.size + 1]? = some (.cells #[.int .i64 0, .bool false, .slice none 0 0] 52 (0, 0)) := by rw [hW, heap_setCell_at, heap_setCell_at, heap_setCell_at, heap_setCell_at, HR2.out]; rfl
    have d0 : W.cell? ⟨w.heap.size + 1, 0, none⟩ = some (.int .i64 0) := cell_of_heap hh 0
    have d1 : W.cell? ⟨w.heap.size + 1, 1, none⟩ = some (.bool false) := cell_of_heap hh 1
    have d2 : W.cell? ⟨w.heap.size + 1, 2, none⟩ = some (.slice none 0 0) := cell_of_heap hh 2
    have hc : Chg (fun k => k = w.heap.size + 1) w2 W := hW ▸ ((((Chg.refl (fun k => k = w.heap.size + 1) w2).setCell (p := ⟨w.heap.size + 1, _, none⟩) (.inl rfl) _).setCell (p := ⟨w.heap.size + 1, _, none⟩) (.inl rfl) _).setCell (p := ⟨w.heap.size + 1, _, none⟩) (.inl rfl) _).setCell (p := ⟨w.heap.size + 1, _, none⟩) (.inl rfl) _
    refine leaves_cons (f := 52) (args := #[.pointer (some ⟨w.heap.size + 1, 0, none⟩)]) (by simp) (by simp [go_sem]) ?_
    refine (fault_idle _ _).mono ?_
    rintro e u' w'' ⟨rfl, rfl, rfl⟩
    simp [Leaves, settle, results, Tryd.results27, go_sem, d0, d1, d2]
    exact ⟨rfl, deed_fin_u HIX.out HB1.out HX2.out HC2.out HM2.out (Nat.le_refl _) hs1 hc⟩

@[go_sem] theorem as_dup2 (v : Value) (w : World) : (Instr.typeAssert (.iface 177 v) 72 177 true).run Tryd.prog w = .ok (.tuple #[v, .bool true]) w := by kernel_rfl

set_option maxRecDepth 100000 in
set_option maxHeartbeats 1000000 in
theorem zzErr_dup (v : Value) (w : World) : Calls Tryd.prog 53 #[.iface 177 v] w fun e w' => e = .returned (.int .i64 2) ∧ w = w' := by
  go_enter Tryd.func53, Tryd.ntmps53
  go_wp2
  go_ret
  exact ⟨rfl, rfl⟩

set_option maxRecDepth 100000 in
set_option maxHeartbeats 3200000 in
theorem deed_dup_u {x n : Nat} {ks : List Key} {M D : Nat → Prop} {w : World} (h : UIx x n ks M D w) {us : List VV} {A : Option Addr} {c : Nat} {hd N : Int} (hA : LAt w A us) (hu : ConcL us) (hus : us.length ≤ 1000) (hn0 : 0 < us.length)
    (HC : Hid (∀ (D' : Nat → Prop) (w' : World) (A' : Option Addr) (c' : Nat) (vs : List Value), UIx x n ks M D' w' → InsD D' w' us A' vs → Calls Tryd.prog 54 #[.pointer (some ⟨x, 0, none⟩), .slice A' us.length c', .int .i64 hd] w' (fun y w'' => y = .returned (.iface 177 (.slice A' us.length c')) ∧ Below w'.heap.size w' w''))) :
    Calls Tryd.prog 27 #[.pointer (some ⟨x, 0, none⟩), .agg #[.string ⟨#[99, 114, 101, 97, 116, 101]⟩, .slice A us.length c, .int .i64 hd, .int .i64 N]] w (fun y w' => y = .returned (.agg #[.int .i64 2, .bool false, .slice none 0 0]) ∧ Below w.heap.size w w') := by
  have HIX := Lib.hid h
  have HI : Hid (∀ w', Below w.heap.size w w' → Calls Tryd.prog 29 #[.slice A us.length c] w' (InsPost2 us w')) := Lib.hid (fun w' hb => ins2_all us A c w' (hA.below hb) hu.good (by omega))
  have HN : Hid (0 < us.length) := Lib.hid (by omega)
  clear h hA hu hus hn0
  go_enter_defers Tryd.func27, Tryd.ntmps27
  go_wp2_with fail
  obtain ⟨W0, hW0⟩ : ∃ W0, W0 = (w.alloc (.cells #[.string ⟨#[99, 114, 101, 97, 116, 101]⟩, .slice A us.length c, .int .i64 hd, .int .i64 N] 43)).alloc (.cells #[.int .i64 0, .bool false, .slice none 0 0] 52) := ⟨_, rfl⟩
  rw [← hW0]
  have HK0 : Hid (W0.heap[w.heap.size]? = some (.cells #[.string ⟨#[99, 114, 101, 97, 116, 101]⟩, .slice A us.length c, .int .i64 hd, .int .i64 N] 43 (0, 0))) := Lib.hid (by rw [hW0]; exact (heap_alloc_ne _ _ _ (by simp)).trans (heap_new w _))
  have HR0 : Hid (W0.heap[w.heap.size + 1]? = some (.cells #[.int .i64 0, .bool false, .slice none 0 0] 52 (0, 0))) := Lib.hid (by rw [hW0]; have := heap_new (w.alloc (.cells #[.string ⟨#[99, 114, 101, 97, 116, 101]⟩, .slice A us.length c, .int .i64 hd, .int .i64 N] 43)) (.cells #[.int .i64 0, .bool false, .slice none 0 0] 52); simpa using this)
  have HB0 : Hid (Below w.heap.size w W0) := Lib.hid (hW0 ▸ below_al2 w _ _)
  have hs0 : W0.heap.size = w.heap.size + 2 := by rw [hW0]; simp
  have j1 := cell_of_heap HK0.out 1
  have j2 := cell_of_heap HK0.out 2
  clear hW0
  refine wp_region_noPanic ?_
  go_region_law
    (first
      | (go_simp; go_at_call 29
         refine (HI.out _ (by first | exact HB0.out | exact HB0.out.drew)).mono ?_
         rintro y w1 ⟨A1, c1, vs, rfl, hr1, hk1, hb1', hrow1, hval1⟩
         have hb1 : Below W0.heap.size W0 w1 := (by first | exact hb1' | exact ⟨hb1'.os, hb1'.tape, hb1'.output, hb1'.size, hb1'.block⟩)
         have HK1 := Lib.hid (heap_below HK0.out hb1)
         have HR1 := Lib.hid (heap_below HR0.out hb1)
         have HB1 : Hid (Below w.heap.size w w1) := Lib.hid (up_below HB0.out (Nat.le_refl _) hb1)
         have hs1 : w.heap.size + 2 ≤ w1.heap.size := lt_of_heap HR1.out
         have hX1 : UIx x n ks M (fun k => D k ∨ (w.heap.size + 2 ≤ k ∧ k < w1.heap.size)) w1 := (HIX.out.below HB1.out).more (fun k h => .inl h) (fun k hk => by
           rcases hk with hk | hk
           · exact ⟨Nat.lt_of_lt_of_le (HIX.out.data k hk).1 HB1.out.size, (HIX.out.data k hk).2⟩
           · exact ⟨hk.2, fun hM => by have := HIX.out.lt hM; omega⟩)
         have HX1 := Lib.hid hX1
         have hI1 : InsD (fun k => W0.heap.size ≤ k ∧ k < w1.heap.size) w1 us A1 vs := insD_of hr1 hk1 (fun ad e => hrow1 ad e) (fun j v hv => hval1 j v hv) HN.out
         have HI1 := Lib.hid (hI1.mono (E := fun k => D k ∨ (w.heap.size + 2 ≤ k ∧ k < w1.heap.size)) (fun k h => .inr (by omega)))
         have k2 := cell_of_heap HK1.out 2
         clear hX1 hI1 hr1 hk1 hb1 hb1' hrow1 hval1)
      | (go_simp; go_at_call 54
         refine (HC.out _ _ A1 c1 vs HX1.out HI1.out).mono ?_
         rintro y w2 ⟨rfl, hb2⟩
         have HB2 := Lib.hid hb2
         have HR2 := Lib.hid (heap_below HR1.out hb2)
         have r0 := cell_of_heap HR2.out 0
         have r1 := cell_of_heap HR2.out 1
         have r2 := cell_of_heap HR2.out 2
         have f0 := free_of_heap HR2.out 0
         have f1 := free_of_heap HR2.out 1
         have f2 := free_of_heap HR2.out 2
         clear hb2)
      | (go_simp; go_at_call 53
         refine (zzErr_dup _ _).mono ?_
         rintro y w3 ⟨rfl, rfl⟩))
  all_goals
    refine NoPanic.normal ?_
    go_wp2
    obtain ⟨W, hW⟩ : ∃ W, W = (((w2.setCell ⟨w.heap.size + 1, 0, none⟩ (.int .i64 2)).setCell ⟨w.heap.size + 1, 0, none⟩ (.int .i64 2)).setCell ⟨w.heap.size + 1, 1, none⟩ (.bool false)).setCell ⟨w.heap.size + 1, 2, none⟩ (.slice none 0 0) := ⟨_, rfl⟩
    rw [← hW]
    have hh : W.heap[w.heap.size + 1]? = some (.cells #[.int .i64 2, .bool false, .slice none 0 0] 52 (0, 0)) := by rw [hW, heap_setCell_at, heap_setCell_at, heap_setCell_at, heap_setCell_at, HR2.out]; rfl
    have d0 : W.cell? ⟨w.heap.size + 1, 0, none⟩ = some (.int .i64 2) := cell_of_heap hh 0
    have d1 : W.cell? ⟨w.heap.size + 1, 1, none⟩ = some (.bool false) := cell_of_heap hh 1
    have d2 : W.cell? ⟨w.heap.size + 1, 2, none⟩ = some (.slice none 0 0) := cell_of_heap hh 2
    have hc : Chg (fun k => k = w.heap.size + 1) w2 W := hW ▸ ((((Chg.refl (fun k => k = w.heap.size + 1) w2).setCell (p := ⟨w.heap.size + 1, _, none⟩) (.inl rfl) _).setCell (p := ⟨w.heap.size + 1, _, none⟩) (.inl rfl) _).setCell (p := ⟨w.heap.size + 1, _, none⟩) (.inl rfl) _).setCell (p := ⟨w.heap.size + 1, _, none⟩) (.inl rfl) _
    refine leaves_cons (f := 52) (args := #[.pointer (some ⟨w.heap.size + 1, 0, none⟩)]) (by simp) (by simp [go_sem]) ?_
    refine (fault_idle _ _).mono ?_
    rintro e u' w'' ⟨rfl, rfl, rfl⟩
    simp [Leaves, settle, results, Tryd.results27, go_sem, d0, d1, d2]
    exact (up_below' HB1.out HB2.out).trans (hc.below (Nat.le_trans HB1.out.size HB2.out.size) (fun k e => by omega))

end Go.Proofs.YtffgkocokkhahaaDoor

/- A unique index from its first entry on. -/
namespace Go.Proofs.YtffgkocokkhahaaDoor
open Go.RowKit

/-- What an entry of a unique index is told as. -/
def outE (e : XE) : XE := ⟨e.l, e.A, e.m, e.p, match e.A with | none => e.h | some _ => e.n, e.n⟩

theorem ans_nil_reads (w : World) : Reads w w.heap.size 1 none ([] : List VV).length [] := ⟨rfl, fun h => by simp at h⟩

theorem ux_outs {D : Nat → Prop} {w : World} {us : List VV} {A : Option Addr} {m p : Nat} (h : KOk D w us A m p) : Calls Tryd.prog 39 #[.slice A m p] w (OutsPost us w) := by
  rcases h with ⟨rfl, rfl, rfl, rfl⟩ | ⟨x, ad, vs, rfl, rfl, rfl, hx, _, hI⟩
  · exact outs_any [] none 0 [] w (ans_nil_reads w) ⟨rfl, fun j x v h => by simp at h⟩ (fun j x h => by simp at h) (by simp)
  · exact outs_any [x] (some ad) p vs w hI.reads hI.rep hx.good (by simp)

theorem walk_first_u {P : List Pg} {b t : Nat} {ver : Int} {E : Value} {c : Int} {fi la r : Value} {w : World} {n : Int} {D : Nat → Prop} (h0 : 0 ≤ n) (h1 : n ≤ 1000000) (hch : Chain w (.pointer none) P (.pointer none)) (hn : ∀ p ∈ P, 1 ≤ p.2.length) (hpb : ∀ p ∈ P, ¬ p.1 = b)
    (ht : TreeW w t c fi la r ver) (htb : ¬ t = b) (hE : HasEof w E) (hbE : ¬ 0 = b) (h : AtN P w b t ver true E 0) (lb : b < w.heap.size) (hk : ∀ e ∈ ents P, KOk D w e.l e.A e.m e.p) (hD : ∀ k, D k → ¬ k = b) :
    Calls Tryd.prog 60 #[.iface 189 (.pointer (some ⟨b, 0, none⟩)), .nilIface, .int .i64 n, .bool true, .bool false] w (WalkP n false ((ents P).map outE) b w) := by
  refine walk_next b n false ((ents P).map outE) (fun k w1 => AtN P w1 b t ver true E k) E w h0 h1 lb hE.form h (Lib.hid fun k x w1 hc hi hx => ?_) (Lib.hid fun w1 hc hi => ?_) (Lib.hid fun k w1 w2 S hi hc hS => hi.chg hc hS) (Lib.hid fun k x w1 hc hx => ?_)
  · rw [List.getElem?_map] at hx
    obtain ⟨e, he, rfl⟩ := Option.map_eq_some_iff.1 hx
    have hke := hk e (List.mem_of_getElem? he)
    obtain ⟨l, A, m, p, kh, kn⟩ := e
    rcases hke with ⟨h2, h3, h4, h5⟩ | ⟨x, ad, vs, h2, h3, h4, _⟩
    · simp only at h2 h3 h4 h5
      subst h3 h4 h5
      exact Next2_null l kh kn (chain_chg hch hc hpb) hn (ht.chg hc htb) (hE.chg hc hbE) hbE hi he
    · simp only at h2 h3 h4
      subst h3 h4
      exact Next2_val l ad 1 p kh kn (chain_chg hch hc hpb) hn (ht.chg hc htb) (hE.chg hc hbE) hbE hi he
  · rw [List.length_map] at hi
    generalize hg : (ents P).length = g at hi
    cases hi with
    | at_ hP hi h =>
      subst hP
      rw [ents_append] at hg
      simp [ents] at hg
      omega
    | end_ h => exact Next2_stop hE.form h
  · rw [List.getElem?_map] at hx
    obtain ⟨e, he, rfl⟩ := Option.map_eq_some_iff.1 hx
    exact ux_outs ((hk e (List.mem_of_getElem? he)).chg hc hD)

theorem uix_seek_first {x n : Nat} {ks : List Key} {M D : Nat → Prop} {w0 : World} (h : UIx x n ks M D w0) {E : Value} (hE : HasEof w0 E) {N : Int} (hN : (ks.length : Int) ≤ N) (hN1 : N ≤ 1000000) :
    ∃ ks' : List Key, ks'.map Key.l = ks.map Key.l ∧ ∀ w, Below w0.heap.size w0 w → Calls Tryd.prog 59 #[.pointer (some ⟨x, 0, none⟩)] w (SeekG ks' N true w) := by
  obtain ⟨m, t, r, L, S, es, hi0, hm, he, hk0, hdm⟩ := h.ex
  have hiw := fun w (hb : Below w0.heap.size w0 w) => hi0.chg (Chg.of_below (S := fun _ => False) hb) id id (fun _ _ h => h)
  by_cases hes : es = []
  · subst hes
    obtain rfl : ks = [] := by rw [← he]; rfl
    refine ⟨[], rfl, fun w hb => ?_⟩
    obtain ⟨ver, ht, _⟩ := tree_empty (hiw w hb).tree
    exact (idx_first_none (hiw w hb).idx ht rfl (hE.below hb)).mono fun y w1 h1 => seekG_none (hE.below hb) h1
  · refine ⟨(es.map outE).map XE.key, by rw [← he]; simp [List.map_map]; intro e _; rfl, fun w hbw => ?_⟩
    have hi := hiw w hbw
    have hk := fun e (he : e ∈ es) => (hk0 e he).key.below hbw
    have hE := hE.below hbw
    obtain ⟨P, c, rt, ver, hP, hP0, hch, hsz, ht, hPS, hSt⟩ := tree_pages hi.tree hes
    refine (first_at (E := E) hch hsz hP0 ht hi.idx).mono ?_
    rintro y w1 ⟨b, rfl, hat, hlo, hb⟩
    refine seekG_of ⟨b, rfl, hlo, hb, fun w2 hb2 => ?_⟩
    have hb02 := up_below' hb hb2
    have hno : ∀ k, k < w.heap.size → ¬ k = b := fun k hk e => by omega
    have hcF : Chg (fun _ => False) w w2 := Chg.of_below hb02
    have lb1 := enum_lt hat
    have hw := walk_first_u (P := P) (b := b) (t := t) (ver := ver) (E := E) (w := w2) (n := N) (D := D) (by omega) hN1 (chain_chg hch hcF (fun _ _ h => h)) hsz (fun p hp => hno _ (chain_lt hch p hp)) (ht.chg hcF id) (hno t (lt_of_heap ht)) (hE.below hb02) (hno _ hE.lt)
      (hat.chg (Chg.of_below (S := fun _ => False) hb2) id) (Nat.lt_of_lt_of_le lb1 hb2.size) (fun e he' => (hk e (by rw [hP] at he'; exact he')).below hb02) (fun k hk => hno k (Nat.lt_of_lt_of_le (h.data k hk).1 hbw.size))
    refine hw.mono ?_
    intro y w' hP'
    rw [hP] at hP'
    exact ixwalk_of hP' (by rw [List.length_map]; rw [← he] at hN; simpa using hN)

end Go.Proofs.YtffgkocokkhahaaDoor
