/-
  The first and the last entry of an index. || Where a key stands: which page, and where in it. || (*xtree).Set of a key that is not there. || (*xtree).Set of a key that is not there, under a root.
-/
import Derived.Test.YtffgkocokkhahaaDoorIxu14
import Derived.LoopN
import Derived.Outline

/- The first and the last entry of an index. -/
namespace Go.Proofs.YtffgkocokkhahaaDoor
open Go.RowKit

/-- An index: the store, its tree, whether it is unique. -/
def IdxW (w : World) (x m t : Nat) (uni : Bool) : Prop := w.heap[x]? = some (.cells #[ptr m, ptr t, .bool uni] 173 (0, 0))

def EnumP (i : Int) (e : XE) (q t : Nat) (ver : Int) (w : World) (y : Ending) (w' : World) : Prop :=
  ∃ N, y = .returned (.tuple #[.pointer (some ⟨N, 0, none⟩), .nilIface]) ∧
    w'.heap[N]? = some (.cells #[.nilIface, .bool true, .int .i64 i, .slice e.A e.m e.p, .int .i64 e.h, ptr q, ptr t, .int .i64 ver] 192 (0, 0)) ∧ w.heap.size ≤ N ∧ Below w.heap.size w w'

set_option maxRecDepth 100000 in
set_option maxHeartbeats 1000000 in
theorem tree_first {q t : Nat} {es : List XE} {rest : List Value} {nx pv : Value} {e : XE} {c : Int} {la r : Value} {ver : Int} {w : World} (hq : PageAt w q es rest nx pv) (he : es[0]? = some e) (ht : TreeW w t c (ptr q) la r ver) :
    Calls Tryd.prog 90 #[.pointer (some ⟨t, 0, none⟩)] w (EnumP 0 e q t ver w) := by
  have c1 : w.cell? ⟨t, 1, none⟩ = some (.pointer (some ⟨q, 0, none⟩)) := cell_of_heap ht 1
  have c4 : w.cell? ⟨t, 4, none⟩ = some (.int .i64 ver) := cell_of_heap ht 4
  have e0 : w.cell? ⟨q, 1, none⟩ = some (.slice e.A e.m e.p) := (hq.cell _).trans (by have := pgL_at XE.cells 3 XE.three es rest [nx, pv] 0 0 e _ he (by omega) rfl; exact this)
  have e1 : w.cell? ⟨q, 2, none⟩ = some (.int .i64 e.h) := (hq.cell _).trans (by have := pgL_at XE.cells 3 XE.three es rest [nx, pv] 0 1 e _ he (by omega) rfl; exact this)
  clear hq he ht
  go_enter Tryd.func90, Tryd.ntmps90
  go_wp2
  go_region
  go_wp2
  go_ret2
  exact ⟨w.heap.size, rfl, heap_new w _, Nat.le_refl _, ((Below.refl _ _).alloc (Nat.le_refl _) _).drew⟩

set_option maxRecDepth 100000 in
set_option maxHeartbeats 1000000 in
theorem tree_last {q t j : Nat} {es : List XE} {rest : List Value} {nx pv : Value} {e : XE} {c : Int} {fi r : Value} {ver : Int} {w : World} (hq : PageAt w q es rest nx pv) (hj : es.length = j + 1) (he : es[j]? = some e) (ht : TreeW w t c fi (ptr q) r ver) :
    Calls Tryd.prog 91 #[.pointer (some ⟨t, 0, none⟩)] w (EnumP j e q t ver w) := by
  have hle := hq.le
  have c2 : w.cell? ⟨t, 2, none⟩ = some (.pointer (some ⟨q, 0, none⟩)) := cell_of_heap ht 2
  have c4 : w.cell? ⟨t, 4, none⟩ = some (.int .i64 ver) := cell_of_heap ht 4
  have cq : w.cell? ⟨q, 0, none⟩ = some (.int .i64 es.length) := by rw [hq.cell]; rfl
  have e0 : w.cell? ⟨q, 1 + j * 3, none⟩ = some (.slice e.A e.m e.p) := (hq.cell _).trans (pgL_at XE.cells 3 XE.three es rest [nx, pv] j 0 e _ he (by omega) rfl)
  have e1 : w.cell? ⟨q, 1 + j * 3 + 1, none⟩ = some (.int .i64 e.h) := (hq.cell _).trans (pgL_at XE.cells 3 XE.three es rest [nx, pv] j 1 e _ he (by omega) rfl)
  have hw1 : (es.length : Int) - 1 = (j : Int) := by omega
  have hw2 : IntKind.i64.wrap (j : Int) = (j : Int) := IntWalk.i64_in _ (by omega)
  have hj1 : (j : Int) < 129 := by omega
  have hj2 : (0 : Int) ≤ j := by omega
  clear hq he ht hj
  go_enter Tryd.func91, Tryd.ntmps91
  go_wp2
  go_region
  go_wp2
  go_ret2
  exact ⟨w.heap.size, rfl, heap_new w _, Nat.le_refl _, ((Below.refl _ _).alloc (Nat.le_refl _) _).drew⟩

/-- What an index hands out to go through it. -/
def IterP (Q : World → Nat → Prop) (w : World) (y : Ending) (w' : World) : Prop :=
  ∃ b, y = .returned (.tuple #[.iface 189 (.pointer (some ⟨b, 0, none⟩)), .nilIface]) ∧ Q w' b ∧ w.heap.size ≤ b ∧ Below w.heap.size w w'

set_option maxRecDepth 100000 in
set_option maxHeartbeats 1000000 in
theorem idx_first {x m t q : Nat} {uni : Bool} {e : XE} {ver : Int} {i : Int} {w : World} (hx : IdxW w x m t uni)
    (H : Hid (Calls Tryd.prog 90 #[.pointer (some ⟨t, 0, none⟩)] w (EnumP i e q t ver w))) :
    Calls Tryd.prog 59 #[.pointer (some ⟨x, 0, none⟩)] w (IterP (fun w' b => EnumAt w' b .nilIface true i (.slice e.A e.m e.p) e.h (ptr q) t ver uni) w) := by
  have c1 : w.cell? ⟨x, 1, none⟩ = some (.pointer (some ⟨t, 0, none⟩)) := cell_of_heap hx 1
  have HX := Lib.hid hx
  clear hx
  go_enter Tryd.func59, Tryd.ntmps59
  go_wp2_with (go_at_call 90; refine H.out.mono ?_; rintro y w1 ⟨N, rfl, hN, hlo, hb⟩; have d0 := cell_of_heap hN 0; have d1 := cell_of_heap hN 1; have d2 := cell_of_heap hN 2; have d3 := cell_of_heap hN 3; have d4 := cell_of_heap hN 4; have d5 := cell_of_heap hN 5; have d6 := cell_of_heap hN 6; have d7 := cell_of_heap hN 7; have du : w1.cell? ⟨x, 2, none⟩ = some (.bool uni) := cell_of_heap (heap_below HX.out hb) 2; have HB := Lib.hid hb; clear hb hN)
  go_region
  go_wp2
  go_ret2
  exact ⟨w1.heap.size, rfl, heap_new w1 _, HB.out.size, (HB.out.alloc HB.out.size _).drew⟩

set_option maxRecDepth 100000 in
set_option maxHeartbeats 1000000 in
theorem idx_last {x m t q : Nat} {uni : Bool} {e : XE} {ver : Int} {i : Int} {w : World} (hx : IdxW w x m t uni)
    (H : Hid (Calls Tryd.prog 91 #[.pointer (some ⟨t, 0, none⟩)] w (EnumP i e q t ver w))) :
    Calls Tryd.prog 61 #[.pointer (some ⟨x, 0, none⟩)] w (IterP (fun w' b => EnumAt w' b .nilIface true i (.slice e.A e.m e.p) e.h (ptr q) t ver uni) w) := by
  have c1 : w.cell? ⟨x, 1, none⟩ = some (.pointer (some ⟨t, 0, none⟩)) := cell_of_heap hx 1
  have HX := Lib.hid hx
  clear hx
  go_enter Tryd.func61, Tryd.ntmps61
  go_wp2_with (go_at_call 91; refine H.out.mono ?_; rintro y w1 ⟨N, rfl, hN, hlo, hb⟩; have d0 := cell_of_heap hN 0; have d1 := cell_of_heap hN 1; have d2 := cell_of_heap hN 2; have d3 := cell_of_heap hN 3; have d4 := cell_of_heap hN 4; have d5 := cell_of_heap hN 5; have d6 := cell_of_heap hN 6; have d7 := cell_of_heap hN 7; have du : w1.cell? ⟨x, 2, none⟩ = some (.bool uni) := cell_of_heap (heap_below HX.out hb) 2; have HB := Lib.hid hb; clear hb hN)
  go_region
  go_wp2
  go_ret2
  exact ⟨w1.heap.size, rfl, heap_new w1 _, HB.out.size, (HB.out.alloc HB.out.size _).drew⟩

set_option maxRecDepth 100000 in
set_option maxHeartbeats 1000000 in
theorem tree_first_none {t : Nat} {c ver : Int} {fi la r : Value} {E : Value} {w : World} (ht : TreeW w t c fi la r ver) (hn : fi = .pointer none) (hE : HasEof w E) :
    Calls Tryd.prog 90 #[.pointer (some ⟨t, 0, none⟩)] w fun y w' => y = .returned (.tuple #[.pointer none, E]) ∧ Below w.heap.size w w' := by
  subst hn
  have c1 : w.cell? ⟨t, 1, none⟩ = some (.pointer none) := cell_of_heap ht 1
  obtain ⟨gl, gc, a, rfl⟩ := hE
  clear ht
  go_enter Tryd.func90, Tryd.ntmps90
  go_wp2
  go_region
  go_wp2
  go_ret2
  exact ⟨rfl, (Below.refl _ _).drew⟩

set_option maxRecDepth 100000 in
set_option maxHeartbeats 1000000 in
theorem idx_first_none {x m t : Nat} {uni : Bool} {c ver : Int} {fi la r : Value} {E : Value} {w : World} (hx : IdxW w x m t uni) (ht : TreeW w t c fi la r ver) (hn : fi = .pointer none) (hE : HasEof w E) :
    Calls Tryd.prog 59 #[.pointer (some ⟨x, 0, none⟩)] w fun y w' => y = .returned (.tuple #[.nilIface, E]) ∧ Below w.heap.size w w' := by
  have c1 : w.cell? ⟨x, 1, none⟩ = some (.pointer (some ⟨t, 0, none⟩)) := cell_of_heap hx 1
  have H := Lib.hid (tree_first_none ht hn hE)
  obtain ⟨_, _, a, rfl⟩ := hE
  clear hx ht hn
  go_enter Tryd.func59, Tryd.ntmps59
  go_wp2_with (go_at_call 90; refine H.out.mono ?_; rintro y w1 ⟨rfl, hb⟩)
  go_ret2
  exact ⟨rfl, hb⟩

set_option maxRecDepth 100000 in
set_option maxHeartbeats 1000000 in
theorem tree_last_none {t : Nat} {c ver : Int} {fi la r : Value} {E : Value} {w : World} (ht : TreeW w t c fi la r ver) (hn : la = .pointer none) (hE : HasEof w E) :
    Calls Tryd.prog 91 #[.pointer (some ⟨t, 0, none⟩)] w fun y w' => y = .returned (.tuple #[.pointer none, E]) ∧ Below w.heap.size w w' := by
  subst hn
  have c1 : w.cell? ⟨t, 2, none⟩ = some (.pointer none) := cell_of_heap ht 2
  obtain ⟨gl, gc, a, rfl⟩ := hE
  clear ht
  go_enter Tryd.func91, Tryd.ntmps91
  go_wp2
  go_region
  go_wp2
  go_ret2
  exact ⟨rfl, (Below.refl _ _).drew⟩

set_option maxRecDepth 100000 in
set_option maxHeartbeats 1000000 in
theorem idx_last_none {x m t : Nat} {uni : Bool} {c ver : Int} {fi la r : Value} {E : Value} {w : World} (hx : IdxW w x m t uni) (ht : TreeW w t c fi la r ver) (hn : la = .pointer none) (hE : HasEof w E) :
    Calls Tryd.prog 61 #[.pointer (some ⟨x, 0, none⟩)] w fun y w' => y = .returned (.tuple #[.nilIface, E]) ∧ Below w.heap.size w w' := by
  have c1 : w.cell? ⟨x, 1, none⟩ = some (.pointer (some ⟨t, 0, none⟩)) := cell_of_heap hx 1
  have H := Lib.hid (tree_last_none ht hn hE)
  obtain ⟨_, _, a, rfl⟩ := hE
  clear hx ht hn
  go_enter Tryd.func61, Tryd.ntmps61
  go_wp2_with (go_at_call 91; refine H.out.mono ?_; rintro y w1 ⟨rfl, hb⟩)
  go_ret2
  exact ⟨rfl, hb⟩

theorem tree_pages {w : World} {t : Nat} {L : List XE} {S : Nat → Prop} (h : TreeAt w t L S) (hL : L ≠ []) :
    ∃ P c r ver, ents P = L ∧ P ≠ [] ∧ Chain w (.pointer none) P (.pointer none) ∧ (∀ p ∈ P, 1 ≤ p.2.length) ∧ TreeW w t c (hdp P (.pointer none)) (lastp (.pointer none) P) r ver ∧ (∀ p ∈ P, S p.1) ∧ S t := by
  cases h with
  | none h => exact absurd rfl hL
  | lone h =>
    rename_i b
    obtain ⟨⟨ver, ht⟩, ⟨rest, hq⟩, hs⟩ := h
    exact ⟨[(b, L)], _, _, ver, by simp [ents], by simp, ⟨⟨rest, hq⟩, trivial⟩, fun p hp => by simp at hp; subst hp; exact hs.1, ht, fun p hp => by simp at hp; subst hp; exact .inr rfl, .inl rfl⟩
  | many h =>
    rename_i x P
    obtain ⟨ver, ht⟩ := h.tree
    exact ⟨P, _, _, ver, rfl, by rintro rfl; have := h.two; simp at this, h.chain, fun p hp => by have := (h.sizes p hp).1; omega, ht, fun p hp => .inr (mem_blocks hp), .inl (.inl rfl)⟩
theorem tree_empty {w : World} {t : Nat} {S : Nat → Prop} (h : TreeAt w t [] S) : ∃ ver, TreeW w t 0 (.pointer none) (.pointer none) .nilIface ver ∧ S t := by
  generalize hL : ([] : List XE) = L at h
  cases h with
  | none h => obtain ⟨ver, h⟩ := h; exact ⟨ver, h, rfl⟩
  | lone h => subst hL; have := h.size.1; simp at this
  | many h =>
    have h1 := h.pages
    have h2 := h.two
    rw [← hL] at h1
    simp at h1
    omega

/-- At the first entry. -/
theorem first_at {w : World} {t : Nat} {P : List Pg} {E : Value} (hch : Chain w (.pointer none) P (.pointer none)) (hn : ∀ p ∈ P, 1 ≤ p.2.length) (hP : P ≠ []) {c : Int} {r : Value} {ver : Int} (ht : TreeW w t c (hdp P (.pointer none)) (lastp (.pointer none) P) r ver)
    {x m : Nat} {uni : Bool} (hx : IdxW w x m t uni) :
    Calls Tryd.prog 59 #[.pointer (some ⟨x, 0, none⟩)] w (IterP (fun w' b => AtN P w' b t ver uni E 0) w) := by
  cases P with
  | nil => exact absurd rfl hP
  | cons p P =>
    obtain ⟨q, es⟩ := p
    obtain ⟨⟨rest, hq⟩, _⟩ := hch
    have h1 : 1 ≤ es.length := hn (q, es) (by simp)
    obtain ⟨e, he⟩ : ∃ e, es[0]? = some e := ⟨es[0], List.getElem?_eq_getElem _⟩
    refine (idx_first (i := 0) (q := q) (e := e) hx (Lib.hid (tree_first hq he ht))).mono ?_
    rintro y w' ⟨b, rfl, h2, h3, h4⟩
    exact ⟨b, rfl, .at_ (A := []) (B := P) (q := q) (es := es) (i := 0) rfl h1 h2, h3, h4⟩

/-- At the last entry. -/
theorem last_at {w : World} {t : Nat} {P : List Pg} {E : Value} (hch : Chain w (.pointer none) P (.pointer none)) (hn : ∀ p ∈ P, 1 ≤ p.2.length) (hP : P ≠ []) {c : Int} {r : Value} {ver : Int} (ht : TreeW w t c (hdp P (.pointer none)) (lastp (.pointer none) P) r ver)
    {x m : Nat} {uni : Bool} (hx : IdxW w x m t uni) :
    Calls Tryd.prog 61 #[.pointer (some ⟨x, 0, none⟩)] w (IterP (fun w' b => AtP P w' b t ver uni E (ents P).length) w) := by
  rcases List.eq_nil_or_concat P with h | ⟨A, ⟨q, es⟩, h⟩
  · exact absurd h hP
  · have h' : P = A ++ [(q, es)] := by simpa using h
    subst h'
    obtain ⟨rest, hq⟩ := chain_at hch
    obtain ⟨j, hj⟩ : ∃ j, es.length = j + 1 := ⟨es.length - 1, by have : 1 ≤ es.length := hn (q, es) (by simp); omega⟩
    obtain ⟨e, he⟩ : ∃ e, es[j]? = some e := ⟨es[j], List.getElem?_eq_getElem _⟩
    have hl : lastp (.pointer none) (A ++ [(q, es)]) = ptr q := by rw [lastp_append]; rfl
    rw [hl] at ht
    refine (idx_last (i := j) (q := q) (e := e) hx (Lib.hid (tree_last hq hj he ht))).mono ?_
    rintro y w' ⟨b, rfl, h2, h3, h4⟩
    have e1 : (ents (A ++ [(q, es)])).length = (ents A).length + j + 1 := by rw [ents_append]; simp [ents]; omega
    refine ⟨b, rfl, ?_, h3, h4⟩
    show AtP _ w' b t ver uni E (ents (A ++ [(q, es)])).length
    rw [e1]
    exact .at_ (A := A) (B := []) (q := q) (es := es) (i := j) rfl (by omega) h2

end Go.Proofs.YtffgkocokkhahaaDoor

/- Where a key stands: which page, and where in it. -/
namespace Go.Proofs.YtffgkocokkhahaaDoor
open Go.RowKit

theorem Asks.below {w w' : World} {u : Value} {es : List XE} {cs : Nat → Int} (h : Asks w u es cs) (hb : Below w.heap.size w w') : Asks w' u es cs :=
  fun j e he => by
    obtain ⟨h0, h1, h2⟩ := h j e he
    exact ⟨h0, h1, fun w'' hb2 => h2 w'' (hb.trans (hb2.mono hb.size))⟩

/-- Of some entries within others. -/
theorem Asks.part {w : World} {u : Value} {L es : List XE} {cs : Nat → Int} {o : Nat → Nat} (h : Asks w u L cs) (ho : ∀ (j : Nat) (e : XE), es[j]? = some e → L[o j]? = some e) : Asks w u es (fun j => cs (o j)) :=
  fun j e he => h (o j) e (ho j e he)

/-- The page of a place. -/
theorem place : ∀ (P : List Pg) (g : Nat), P ≠ [] → g ≤ (ents P).length → ∃ A q es B i, P = A ++ (q, es) :: B ∧ g = (ents A).length + i ∧ i ≤ es.length ∧ (A ≠ [] → 1 ≤ i)
  | [], _, h, _ => absurd rfl h
  | (q, es) :: P, g, _, hg => by
    rcases Nat.lt_or_ge es.length g with h | h
    · cases P with
      | nil => simp [ents] at hg; omega
      | cons p P =>
        obtain ⟨A, q', es', B, i, h1, h2, h3, h4⟩ := place (p :: P) (g - es.length) (by simp) (by rw [ents_cons, List.length_append] at hg; simp only at hg; omega)
        refine ⟨(q, es) :: A, q', es', B, i, by rw [h1]; rfl, by rw [ents_cons, List.length_append]; show g = es.length + _ + i; omega, h3, fun _ => ?_⟩
        cases A with
        | nil => have : (ents ([] : List Pg)).length = 0 := rfl; omega
        | cons a A => exact h4 (by simp)
    · exact ⟨[], q, es, P, g, rfl, by simp [ents], h, fun h => absurd rfl h⟩

/-- The first entries. -/
def heads (r : List Pg) : List XE := r.filterMap (fun p => p.2.head?)
theorem heads_len : ∀ {r : List Pg}, (∀ p ∈ r, 1 ≤ p.2.length) → (heads r).length = r.length
  | [], _ => rfl
  | p :: r, h => by
    have h1 := h p (by simp)
    obtain ⟨e, he⟩ : ∃ e, p.2.head? = some e := by
      cases hp : p.2 with
      | nil => rw [hp] at h1; simp at h1
      | cons e l => exact ⟨e, rfl⟩
    have h2 := heads_len (r := r) (fun q hq => h q (by simp [hq]))
    unfold heads at h2 ⊢
    rw [List.filterMap_cons_some (f := fun p : Pg => p.2.head?) he, List.length_cons, h2, List.length_cons]
theorem heads_at : ∀ {r : List Pg} (_ : ∀ p ∈ r, 1 ≤ p.2.length) (t : Nat) (p : Pg), r[t]? = some p → ∃ e, (heads r)[t]? = some e ∧ p.2[0]? = some e ∧ (ents r)[(ents (r.take t)).length]? = some e
  | [], _, _, _, h => by simp at h
  | p :: r, h, 0, q, hq => by
    obtain rfl : p = q := by simpa using hq
    have h1 := h p (by simp)
    cases hp : p.2 with
    | nil => rw [hp] at h1; simp at h1
    | cons e l =>
      refine ⟨e, ?_, rfl, ?_⟩
      · unfold heads
        rw [List.filterMap_cons_some (f := fun p : Pg => p.2.head?) (b := e) (by rw [hp]; rfl)]
        rfl
      · simp [ents, hp]
  | p :: r, h, t + 1, q, hq => by
    have h1 := h p (by simp)
    obtain ⟨e, h2, h3, h4⟩ := heads_at (r := r) (fun q hq => h q (by simp [hq])) t q (by simpa using hq)
    obtain ⟨e0, he0⟩ : ∃ e, p.2.head? = some e := by
      cases hp : p.2 with
      | nil => rw [hp] at h1; simp at h1
      | cons e l => exact ⟨e, rfl⟩
    refine ⟨e, ?_, h3, ?_⟩
    · unfold heads at h2 ⊢
      rw [List.filterMap_cons_some (f := fun p : Pg => p.2.head?) he0]
      exact h2
    · rw [List.take_succ_cons, ents_cons, ents_cons, List.length_append, List.getElem?_append_right (by omega)]
      rw [show p.2.length + (ents (r.take t)).length - p.2.length = (ents (r.take t)).length by omega]
      exact h4

theorem ents_take_le {P : List Pg} {a b : Nat} (h : a ≤ b) : (ents (P.take a)).length ≤ (ents (P.take b)).length := by
  have : P.take a = (P.take b).take a := by rw [List.take_take, Nat.min_eq_left h]
  rw [this]
  conv => rhs; rw [← List.take_append_drop a (P.take b), ents_append, List.length_append]
  omega

/-- At the root: which page. -/
theorem root_pos {P A B : List Pg} {q : Nat} {es : List XE} {i g : Nat} {s : Nat → Int} (hP : P = A ++ (q, es) :: B) (hg : g = (ents A).length + i) (hi : i ≤ es.length) (hi1 : A ≠ [] → 1 ≤ i)
    (hn : ∀ p ∈ P, 1 ≤ p.2.length) (hs : Pos s (ents P).length g false) : Pos (fun t => s (ents (P.take (t + 1))).length) (heads P.tail).length A.length false := by
  have hl : (heads P.tail).length = A.length + B.length := by
    rw [heads_len (fun p hp => hn p (List.mem_of_mem_tail hp)), hP]
    simp
  have hoff : ∀ t, t < A.length → (ents (P.take (t + 1))).length < g := fun t ht => by
    have h1 : (ents (P.take (t + 1))).length ≤ (ents (P.take A.length)).length := ents_take_le (by omega)
    have h2 : P.take A.length = A := by rw [hP, List.take_left' rfl]
    rw [h2] at h1
    have := hi1 (by rintro rfl; simp at ht)
    omega
  have hbeh : ∀ t, A.length ≤ t → t < A.length + B.length → g ≤ (ents (P.take (t + 1))).length ∧ (ents (P.take (t + 1))).length < (ents P).length := fun t h1 h2 => by
    have h3 : (ents (P.take (A.length + 1))).length ≤ (ents (P.take (t + 1))).length := ents_take_le (by omega)
    have h4 : P.take (A.length + 1) = A ++ [(q, es)] := by
      rw [hP, show A ++ (q, es) :: B = (A ++ [(q, es)]) ++ B by simp]
      exact List.take_left' (by simp)
    rw [h4, ents_append] at h3
    refine ⟨by simp [ents] at h3 ⊢; simp [ents] at hg; omega, ?_⟩
    have hd : P.drop (t + 1) ≠ [] := by
      intro he
      have := congrArg List.length he
      rw [List.length_drop, hP] at this
      simp at this
      omega
    obtain ⟨p, r, hpr⟩ := List.exists_cons_of_ne_nil hd
    have hp1 := hn p (by have : p ∈ P.drop (t + 1) := by rw [hpr]; simp
                         exact List.mem_of_mem_drop this)
    conv => rhs; rw [← List.take_append_drop (t + 1) P, ents_append, List.length_append, hpr, ents_cons, List.length_append]
    omega
  have hneg : ∀ t, A.length ≤ t → t < A.length + B.length → s (ents (P.take (t + 1))).length < 0 := fun t h1 h2 => by
    obtain ⟨h3, h4⟩ := hbeh t h1 h2
    rcases Nat.eq_or_lt_of_le h3 with h5 | h5
    · have := hs.miss rfl (by omega)
      rw [h5] at this
      exact this
    · exact hs.behind _ h5 h4
  refine ⟨by rw [hl]; omega, fun t ht => hs.ahead _ (hoff t ht), fun t h1 h2 => hneg t (by omega) (by rw [hl] at h2; exact h2), fun h => (by cases h), fun _ h => hneg _ (Nat.le_refl _) (by rw [hl] at h; exact h)⟩

/-- In a page: where. -/
theorem page_pos {A B : List Pg} {q : Nat} {es : List XE} {i g : Nat} {s : Nat → Int} (hg : g = (ents A).length + i) (hi : i ≤ es.length) (hs : Pos s (ents (A ++ (q, es) :: B)).length g false) :
    Pos (fun r => s ((ents A).length + r)) es.length i false := by
  have hl : (ents (A ++ (q, es) :: B)).length = (ents A).length + (es.length + (ents B).length) := by rw [ents_append, ents_cons]; simp
  rw [hl] at hs
  refine ⟨hi, fun r hr => hs.ahead _ (by omega), fun r h1 h2 => hs.behind _ (by omega) (by omega), fun h => (by cases h), fun _ h => ?_⟩
  have := hs.miss rfl (by omega)
  rw [hg] at this
  exact this

theorem page_at {A B : List Pg} {q : Nat} {es : List XE} {r : Nat} {e : XE} (h : es[r]? = some e) : (ents (A ++ (q, es) :: B))[(ents A).length + r]? = some e := by
  have hr : r < es.length := (List.getElem?_eq_some_iff.1 h).1
  rw [ents_append, ents_cons, List.getElem?_append_right (by omega), show (ents A).length + r - (ents A).length = r by omega, List.getElem?_append_left hr]
  exact h

theorem head_at {P : List Pg} (hn : ∀ p ∈ P, 1 ≤ p.2.length) (t : Nat) (e : XE) (h : (heads P.tail)[t]? = some e) : (ents P)[(ents (P.take (t + 1))).length]? = some e := by
  cases P with
  | nil => simp [heads] at h
  | cons p P =>
    have hn2 : ∀ q ∈ P, 1 ≤ q.2.length := fun q hq => hn q (by simp [hq])
    have hlt : t < P.length := by rw [← heads_len hn2]; exact (List.getElem?_eq_some_iff.1 h).1
    obtain ⟨e', h1, _, h3⟩ := heads_at hn2 t P[t] (List.getElem?_eq_getElem hlt)
    obtain rfl : e = e' := Option.some.inj (h.symm.trans h1)
    rw [List.take_succ_cons, ents_cons, ents_cons, List.length_append, List.getElem?_append_right (by omega), show p.2.length + (ents (P.take t)).length - p.2.length = (ents (P.take t)).length by omega]
    exact h3

end Go.Proofs.YtffgkocokkhahaaDoor

/- (*xtree).Set of a key that is not there. -/
namespace Go.Proofs.YtffgkocokkhahaaDoor
open Go.RowKit

set_option maxRecDepth 100000 in
set_option maxHeartbeats 1000000 in
theorem set_none (t : Nat) (e : XE) (ver : Int) (w : World) (ht : TreeW w t 0 (.pointer none) (.pointer none) .nilIface ver) :
    Calls Tryd.prog 85 #[.pointer (some ⟨t, 0, none⟩), .agg #[.slice e.A e.m e.p, .int .i64 e.h], .int .i64 e.n] w (GrowP t [e] (fun k => k = t) w) := by
  have ct3 : w.cell? ⟨t, 3, none⟩ = some .nilIface := cell_of_heap ht 3
  have lt := lt_of_heap ht
  have htn : ¬ t = w.heap.size + 1 := by omega
  have HT := Lib.hid ht
  have HB := Lib.hid (below_al2 w (.cells #[.slice e.A e.m e.p, .int .i64 e.h] 180) (.cells Tryd.zeroCells234 234))
  have HP := Lib.hid (show PageAt ((w.alloc (.cells #[.slice e.A e.m e.p, .int .i64 e.h] 180)).alloc (.cells Tryd.zeroCells234 234)) (w.heap.size + 1) [] zroom (.pointer none) (.pointer none) from ⟨by
    have h := heap_new (w.alloc (.cells #[.slice e.A e.m e.p, .int .i64 e.h] 180)) (.cells Tryd.zeroCells234 234)
    have e1 : (w.alloc (.cells #[.slice e.A e.m e.p, .int .i64 e.h] 180)).heap.size = w.heap.size + 1 := by simp
    rw [e1] at h
    rw [h, zd_eq], by rw [zroom_len]; rfl, zroom_one⟩)
  clear ht
  go_enter Tryd.func85, Tryd.ntmps85
  go_wp2_with (go_at_call 118; refine (insert_any t (w.heap.size + 1) 0 [] zroom _ _ e 0 _ _ _ ver _ HP.out (heap_below HT.out HB.out) htn (Nat.le_refl _) (by simp) (by omega) (by omega)).mono ?_; rintro y w2 ⟨rfl, hp2, ⟨ver2, ht2⟩, hc2⟩; have dt1 := cell_of_heap ht2 1; have dt2 := cell_of_heap ht2 2; have dt3 := cell_of_heap ht2 3; have gt1 := free_of_heap ht2 1; have gt2 := free_of_heap ht2 2; have gt3 := free_of_heap ht2 3; have HP2 := Lib.hid hp2; have HT2 := Lib.hid ht2; clear hp2 ht2)
  go_end0
  have hcS : Chg (fun k => k = t) w w2 := (Chg.of_below HB.out).next hc2 (fun k hk h => by rcases h with h | h; exact h; omega)
  refine ⟨rfl, _, .lone (b := w.heap.size + 1) ⟨⟨ver2, ?_⟩, ⟨_, HP2.out.chg (Chg.setCell (Chg.setCell (Chg.setCell (Chg.refl (fun k => k = t) w2) (p := ⟨t, _, none⟩) (.inl rfl) _) (p := ⟨t, _, none⟩) (.inl rfl) _) (p := ⟨t, _, none⟩) (.inl rfl) _) (fun h => htn h.symm)⟩, by simp⟩, Chg.setCell (Chg.setCell (Chg.setCell hcS (p := ⟨t, _, none⟩) (.inl rfl) _) (p := ⟨t, _, none⟩) (.inl rfl) _) (p := ⟨t, _, none⟩) (.inl rfl) _, fun k hk => ?_⟩
  · unfold TreeW
    rw [heap_setCell_at, heap_setCell_at, heap_setCell_at, show w2.heap[t]? = _ from HT2.out]
    rfl
  · rcases hk with h | h
    · exact .inl h
    · exact .inr (by omega)

/-- What a search in a page has found: behind it the page is as it was. -/
theorem set_lone (t b i : Nat) (es : List XE) (e : XE) (cs : Nat → Int) (s : Nat → Int) (w : World) (h : Lone w t b es es.length) (h0 : 0 ≤ e.h) (h1 : e.h ≤ 9223372036854775807)
    (ha : Asks w (.slice e.A e.m e.p) es cs) (hsd : ∀ (j : Nat) (e' : XE), es[j]? = some e' → s j = keyC (cs j) e.h e'.h) (hp : Pos s es.length i false) :
    Calls Tryd.prog 85 #[.pointer (some ⟨t, 0, none⟩), .agg #[.slice e.A e.m e.p, .int .i64 e.h], .int .i64 e.n] w (GrowP t (es.take i ++ e :: es.drop i) (fun k => k = t ∨ k = b) w) := by
  have hne := h.ne
  have hle := h.size
  have HW := Lib.hid h
  obtain ⟨⟨ver, ht⟩, ⟨rest, hq⟩, _⟩ := h
  have ct3 : w.cell? ⟨t, 3, none⟩ = some (.iface 190 (.pointer (some ⟨b, 0, none⟩))) := cell_of_heap ht 3
  have lt := lt_of_heap ht
  have lb := hq.lt
  have cb0 : w.cell? ⟨b, 0, none⟩ = some (.int .i64 es.length) := by rw [hq.cell]; rfl
  have HF := Lib.hid (fun w' (hb : Below w.heap.size w w') => find_leaf t b es rest _ _ e.A e.m e.p e.h cs i false w' (hq.below hb) h0 h1 (ha.below hb) s hsd hp)
  have hi : i ≤ es.length := hp.le
  have HQ := Lib.hid hq
  have HT := Lib.hid ht
  have hcnt : ((es.take i ++ e :: es.drop i).length : Int) = es.length + 1 := by simp [List.length_take]; omega
  have HN := Lib.hid hcnt
  have HB0 := Lib.hid (show Below w.heap.size w (w.alloc (.cells #[.slice e.A e.m e.p, .int .i64 e.h] 180)) from (Below.refl _ _).alloc (Nat.le_refl _) _)
  clear hq ht ha hsd hp hcnt
  rcases Nat.lt_or_ge es.length 128 with hr | hr
  · have hrc : ((es.length : Int) < 128) = True := by simp; omega
    go_enter Tryd.func85, Tryd.ntmps85
    go_wp2_with fail
    refine wp_loop_rounds 1 ?_
    rw [rounds_succ]
    go_wp2_with (first
      | (go_at_call 116; refine (HF.out _ HB0.out).mono ?_; rintro y w1 ⟨rfl, hb1⟩; obtain ⟨hc1, hf1⟩ := bcell hb1; have hz1 : w.heap.size < w1.heap.size := (by have := hb1.size; (try simp at this); omega); have db0 := (hc1 b 0 (by simp; omega)).trans ((HB0.out.cell (p := ⟨b, 0, none⟩) lb).trans cb0); have lb1 : b < w1.heap.size := (by omega); have HB1 := Lib.hid ((up_below' HB0.out hb1).alloc (by omega) (.cells #[.int .i64 i] 3)))
      | (go_at_call 118; refine (insert_any t b i es rest _ _ e _ _ _ _ ver _ (HQ.out.below HB1.out) (heap_below HT.out HB1.out) hne hi (by omega) (by omega) (by omega)).mono ?_; rintro y w2 ⟨rfl, hp2, ht2, hc2⟩))
    first | go_end0 | refine bodyPost_ret (results_none rfl _ _ _) rfl ?_
    refine ⟨rfl, _, .lone (b := b) ⟨?_, ⟨_, hp2⟩, by simp [List.length_take]; omega⟩, (Chg.of_below HB1.out).next hc2 (fun k _ h => h), fun k hk => .inl hk⟩
    rw [HN.out]
    exact ht2
  · have hr2 : es.length = 128 := by omega
    have hrc : ((es.length : Int) < 128) = False := by simp; omega
    have HO := Lib.hid (fun w' (hb : Below w.heap.size w w') => over_lone t b i es e w' ⟨⟨ver, heap_below HT.out hb⟩, ⟨rest, HQ.out.below hb⟩, hle⟩ hr2 (by omega))
    go_enter Tryd.func85, Tryd.ntmps85
    go_wp2_with fail
    refine wp_loop_rounds 1 ?_
    rw [rounds_succ]
    go_wp2_with (first
      | (go_at_call 116; refine (HF.out _ HB0.out).mono ?_; rintro y w1 ⟨rfl, hb1⟩; obtain ⟨hc1, hf1⟩ := bcell hb1; have hz1 : w.heap.size < w1.heap.size := (by have := hb1.size; (try simp at this); omega); have db0 := (hc1 b 0 (by simp; omega)).trans ((HB0.out.cell (p := ⟨b, 0, none⟩) lb).trans cb0); have lb1 : b < w1.heap.size := (by omega); have HB1 := Lib.hid ((up_below' HB0.out hb1).alloc (by omega) (.cells #[.int .i64 i] 3)))
      | (go_at_call 119; refine (HO.out _ HB1.out).mono ?_; rintro y w2 ⟨rfl, S', hat, hc2, hS⟩))
    first | go_end0 | refine bodyPost_ret (results_none rfl _ _ _) rfl ?_
    refine ⟨rfl, _, hat, (Chg.of_below HB1.out).next hc2 (fun k _ h => h), fun k hk => ?_⟩
    rcases hS k hk with h | h
    · exact .inl h
    · exact .inr (Nat.le_trans HB1.out.size h)

end Go.Proofs.YtffgkocokkhahaaDoor

/- (*xtree).Set of a key that is not there, under a root. -/
namespace Go.Proofs.YtffgkocokkhahaaDoor
open Go.RowKit

theorem put_at {A B : List Pg} {q : Nat} {es : List XE} {i g : Nat} {e : XE} (hg : g = (ents A).length + i) (hi : i ≤ es.length) :
    (ents (A ++ (q, es) :: B)).take g ++ e :: (ents (A ++ (q, es) :: B)).drop g = ents A ++ (es.take i ++ e :: es.drop i) ++ ents B := by
  subst hg
  rw [ents_append, ents_cons, List.take_append, List.drop_append, List.take_of_length_le (l := ents A) (by omega), List.drop_of_length_le (l := ents A) (by omega),
    show (ents A).length + i - (ents A).length = i by omega, List.take_append_of_le_length hi, List.drop_append_of_le_length hi]
  simp

/-- What find asks of the root. -/
theorem root_heads {w : World} {t x b0 : Nat} {bs : List Nat} {P : List Pg} {c : Int} (h : Rooted w t x P c) (hb : Blocks P = b0 :: bs) (hn : ∀ p ∈ P, 1 ≤ p.2.length) :
    (heads P.tail).length = bs.length ∧ ∀ (j b : Nat), bs[j]? = some b → ∃ fs re nx pv e, PageAt w b fs re nx pv ∧ fs[0]? = some e ∧ (heads P.tail)[j]? = some e := by
  have hch := h.chain
  cases P with
  | nil => simp [Blocks] at hb
  | cons p P =>
    have hbs : bs = Blocks P := by simp [Blocks] at hb ⊢; exact hb.2.symm
    subst hbs
    have hn2 : ∀ q ∈ P, 1 ≤ q.2.length := fun q hq => hn q (by simp [hq])
    refine ⟨by rw [List.tail_cons, heads_len hn2]; simp [Blocks], fun j b hjb => ?_⟩
    obtain ⟨q, hq, rfl⟩ : ∃ q, P[j]? = some q ∧ q.1 = b := by
      unfold Blocks at hjb
      rw [List.getElem?_map] at hjb
      obtain ⟨q, h1, h2⟩ := Option.map_eq_some_iff.1 hjb
      exact ⟨q, h1, h2⟩
    obtain ⟨e, h1, h2, _⟩ := heads_at hn2 j q hq
    obtain ⟨re, nx, pv, hp⟩ := chain_page hch q (by simp; exact .inr (List.mem_of_getElem? hq))
    exact ⟨q.2, re, nx, pv, e, hp, h2, h1⟩

theorem Rooted.below {w w' : World} {t x : Nat} {P : List Pg} {c : Int} (h : Rooted w t x P c) (hb : Below w.heap.size w w') : Rooted w' t x P c := by
  obtain ⟨⟨ver, h1⟩, ⟨b0, bs, xr, h2, h3⟩, h4, h5, h6, h7⟩ := h
  exact ⟨⟨ver, heap_below h1 hb⟩, ⟨b0, bs, xr, h2, h3.below hb⟩, chain_chg h4 (Chg.of_below (S := fun _ => False) hb) (fun _ _ h => h), h5, h6, h7⟩

set_option maxRecDepth 100000 in
set_option maxHeartbeats 1000000 in
theorem set_many (t x q i g : Nat) (A B : List Pg) (es : List XE) (e : XE) (cs : Nat → Int) (s : Nat → Int) (w : World) (h : Rooted w t x (A ++ (q, es) :: B) (ents (A ++ (q, es) :: B)).length) (hlen : (A ++ (q, es) :: B).length ≤ 200)
    (hg : g = (ents A).length + i) (hi : i ≤ es.length) (hi1 : A ≠ [] → 1 ≤ i) (h0 : 0 ≤ e.h) (h1 : e.h ≤ 9223372036854775807)
    (ha : Asks w (.slice e.A e.m e.p) (ents (A ++ (q, es) :: B)) cs) (hsd : ∀ (j : Nat) (e' : XE), (ents (A ++ (q, es) :: B))[j]? = some e' → s j = keyC (cs j) e.h e'.h) (hp : Pos s (ents (A ++ (q, es) :: B)).length g false) :
    Calls Tryd.prog 85 #[.pointer (some ⟨t, 0, none⟩), .agg #[.slice e.A e.m e.p, .int .i64 e.h], .int .i64 e.n] w
      (GrowP t (ents A ++ (es.take i ++ e :: es.drop i) ++ ents B) (fun k => (k = t ∨ k = x) ∨ k ∈ Blocks (A ++ (q, es) :: B)) w) := by
  have hn : ∀ p ∈ A ++ (q, es) :: B, 1 ≤ p.2.length := fun p hp => by have := (h.sizes p hp).1; omega
  obtain ⟨hxt, hne⟩ := h.ne
  obtain ⟨ver, ht⟩ := h.tree
  obtain ⟨b0, bs, xr, hbl, hx⟩ := h.root
  have hch := h.chain
  rw [chain_append] at hch
  obtain ⟨_, ⟨sq, hq⟩, _⟩ := hch
  have hlb : bs.length + 1 = A.length + (B.length + 1) := by
    have := congrArg List.length hbl
    simp [Blocks] at this
    omega
  have hsz : es.length ≤ 128 := (h.sizes (q, es) (by simp)).2
  have hbq : (b0 :: bs)[A.length]? = some q := by rw [← hbl, blocks_append, blocks_cons, List.getElem?_append_right (by simp [Blocks]), show A.length - (Blocks A).length = 0 by simp [Blocks]]; rfl
  have hcx : w.cell? ⟨x, 1 + A.length * 2, none⟩ = some (.iface 190 (.pointer (some ⟨q, 0, none⟩))) := hx.ch hbq
  have cx0 : w.cell? ⟨x, 0, none⟩ = some (.int .i64 bs.length) := by rw [hx.cell]; rfl
  have cq0 : w.cell? ⟨q, 0, none⟩ = some (.int .i64 es.length) := by rw [hq.cell]; rfl
  have ct3 : w.cell? ⟨t, 3, none⟩ = some (.iface 228 (.pointer (some ⟨x, 0, none⟩))) := cell_of_heap ht 3
  have lt := lt_of_heap ht
  have lx := hx.lt
  have lq := hq.lt
  simp only [List.length_append, List.length_cons] at hlen
  have HFX := Lib.hid (fun w' (hb : Below w.heap.size w w') => find_root t x b0 bs (heads (A ++ (q, es) :: B).tail) xr e.A e.m e.p e.h (fun j => cs (ents ((A ++ (q, es) :: B).take (j + 1))).length) A.length false w' (hx.below hb)
    (root_heads (h.below hb) hbl hn).2 (root_heads h hbl hn).1 (by omega) h0 h1 ((ha.part (fun j e' he => head_at hn j e' he)).below hb) (fun j => s (ents ((A ++ (q, es) :: B).take (j + 1))).length) (fun j e' he => hsd _ e' (head_at hn j e' he)) (root_pos rfl hg hi hi1 hn hp))
  have HFL := Lib.hid (fun w' (hb : Below w.heap.size w w') => find_leaf t q es sq _ _ e.A e.m e.p e.h (fun r => cs ((ents A).length + r)) i false w' (hq.below hb) h0 h1 ((ha.part (fun r e' he => page_at he)).below hb) (fun r => s ((ents A).length + r)) (fun r e' he => hsd _ e' (page_at he)) (page_pos hg hi hp))
  have HW := Lib.hid h
  have HQ := Lib.hid hq
  have HT := Lib.hid ht
  have HB0 := Lib.hid (show Below w.heap.size w (w.alloc (.cells #[.slice e.A e.m e.p, .int .i64 e.h] 180)) from (Below.refl _ _).alloc (Nat.le_refl _) _)
  obtain ⟨k, hk⟩ : ∃ k, k = A.length := ⟨_, rfl⟩
  rw [← hk] at hcx HFX
  have hk1 : (k : Int) < 258 := by omega
  have hk2 : (0 : Int) ≤ k := by omega
  have hbc : (256 < (bs.length : Int)) = False := by simp; omega
  have HK := Lib.hid hk
  clear h hq ht ha hsd hp hx hne hn hbl hbq hk
  go_enter Tryd.func85, Tryd.ntmps85
  go_wp2_with fail
  refine wp_loop_rounds 2 ?_
  rw [rounds_succ]
  go_wp2_with (go_at_call 116; refine (HFX.out _ HB0.out).mono ?_; rintro y w1 ⟨rfl, hb1⟩; obtain ⟨hc1, hf1⟩ := bcell hb1; have hz1 : w.heap.size < w1.heap.size := (by have := hb1.size; (try simp at this); omega); have dx0 := (hc1 x 0 (by simp; omega)).trans ((HB0.out.cell (p := ⟨x, 0, none⟩) lx).trans cx0); have dxk := (hc1 x (1 + k * 2) (by simp; omega)).trans ((HB0.out.cell (p := ⟨x, 1 + k * 2, none⟩) lx).trans hcx); have dq0 := (hc1 q 0 (by simp; omega)).trans ((HB0.out.cell (p := ⟨q, 0, none⟩) lq).trans cq0); have lx1 : x < w1.heap.size := (by omega); have lq1 : q < w1.heap.size := (by omega); have db0 := (hc1 w.heap.size 0 (by simp)).trans (cell_of_heap (heap_new w (.cells #[.slice e.A e.m e.p, .int .i64 e.h] 180)) 0); have db1 := (hc1 w.heap.size 1 (by simp)).trans (cell_of_heap (heap_new w (.cells #[.slice e.A e.m e.p, .int .i64 e.h] 180)) 1); have HB1 := Lib.hid (up_below' HB0.out hb1))
  obtain ⟨wa, hwa⟩ : ∃ wa, wa = (w1.alloc (.cells #[.int .i64 k] 3)).alloc (.cells #[.pointer (some ⟨x, 0, none⟩)] 228) := ⟨_, rfl⟩
  rw [← hwa]
  have hba : Below w1.heap.size w1 wa := by rw [hwa]; exact ((Below.refl _ _).alloc (Nat.le_refl _) _).alloc (by simp) _
  have ci : wa.cell? ⟨w1.heap.size, 0, none⟩ = some (.int .i64 k) := by rw [hwa]; exact cell_of_heap (heap_old (heap_new w1 _) _) 0
  have cx : wa.cell? ⟨w1.heap.size + 1, 0, none⟩ = some (.pointer (some ⟨x, 0, none⟩)) := by
    have h := heap_new (w1.alloc (.cells #[.int .i64 k] 3)) (.cells #[.pointer (some ⟨x, 0, none⟩)] 228)
    have e1 : (w1.alloc (.cells #[.int .i64 k] 3)).heap.size = w1.heap.size + 1 := by simp
    rw [e1, ← hwa] at h
    exact cell_of_heap h 0
  have HBA := Lib.hid (up_below' HB1.out hba)
  have hza : w1.heap.size < wa.heap.size := by rw [hwa]; show _ < ((w1.alloc _).alloc _).heap.size; simp; omega
  replace dxk := (hba.cell (p := ⟨x, 1 + k * 2, none⟩) lx1).trans dxk
  replace dq0 := (hba.cell (p := ⟨q, 0, none⟩) lq1).trans dq0
  replace db0 := (hba.cell (p := ⟨w.heap.size, 0, none⟩) hz1).trans db0
  replace db1 := (hba.cell (p := ⟨w.heap.size, 1, none⟩) hz1).trans db1
  have lq2 : q < wa.heap.size := by omega
  have lb2 : w.heap.size < wa.heap.size := by omega
  clear hwa hba dx0 hc1 hf1 hb1 hbc hcx cx0 cq0 ct3
  go_still_tail 7, (by kernel_rfl)
  obtain ⟨w2, hw2⟩ : ∃ w2, w2 = wa.drew := ⟨_, rfl⟩
  change wpList _ _ _ _ _ wa.drew
  rw [← hw2]
  have HB2 := Lib.hid (show Below w.heap.size w w2 by rw [hw2]; exact HBA.out.drew)
  replace dq0 : w2.cell? ⟨q, 0, none⟩ = some (.int .i64 es.length) := by rw [hw2]; exact dq0
  replace db0 : w2.cell? ⟨w.heap.size, 0, none⟩ = some (.slice e.A e.m e.p) := by rw [hw2]; exact db0
  replace db1 : w2.cell? ⟨w.heap.size, 1, none⟩ = some (.int .i64 e.h) := by rw [hw2]; exact db1
  replace lq2 : q < w2.heap.size := by rw [hw2]; exact lq2
  replace lb2 : w.heap.size < w2.heap.size := by rw [hw2]; exact lb2
  clear hw2 dxk ci cx
  go_wp2_with fail
  rw [rounds_succ]
  rcases Nat.lt_or_ge es.length 128 with hr | hr
  · have hrc : ((es.length : Int) < 128) = True := by simp; omega
    have htq := (HW.out.ne.2 (q, es) (by simp)).2
    have hcnt : (ents (A ++ (q, es) :: B)).length ≤ 25600 := by have := ents_le HW.out.sizes; simp at this; simp; omega
    go_wp2_with (first
      | (go_at_call 116; refine (HFL.out _ HB2.out).mono ?_; rintro y w3 ⟨rfl, hb3⟩; have eq0 := (hb3.cell (p := ⟨q, 0, none⟩) lq2).trans dq0; have eb0 := (hb3.cell (p := ⟨w.heap.size, 0, none⟩) lb2).trans db0; have eb1 := (hb3.cell (p := ⟨w.heap.size, 1, none⟩) lb2).trans db1; have lq3 : q < w3.heap.size := (by have := hb3.size; omega); have lb3 : w.heap.size < w3.heap.size := (by have := hb3.size; omega); have HB3 := Lib.hid ((up_below' HB2.out hb3).alloc (by omega) (.cells #[.int .i64 i] 3)))
      | (go_at_call 118; refine (insert_any t q i es sq _ _ e _ _ _ _ ver _ (HQ.out.below HB3.out) (heap_below HT.out HB3.out) (fun h => htq h.symm) hi (by omega) (by omega) (by omega)).mono ?_; rintro y w4 ⟨rfl, hp4, ht4, hc4⟩))
    first | go_end0 | refine bodyPost_ret (results_none rfl _ _ _) rfl ?_
    have hE : ents (A ++ (q, es.take i ++ e :: es.drop i) :: B) = ents A ++ (es.take i ++ e :: es.drop i) ++ ents B := by simp [ents]
    have hB' : Blocks (A ++ (q, es.take i ++ e :: es.drop i) :: B) = Blocks (A ++ (q, es) :: B) := by simp [Blocks]
    have hcS : Chg (fun k => k = t ∨ k = q) w w4 := (Chg.of_below HB3.out).next hc4 (fun k _ h => h)
    obtain ⟨nA, nB, _⟩ := nodup_mid HW.out.nodup
    have hne := HW.out.ne
    refine grow_many (P := A ++ (q, es.take i ++ e :: es.drop i) :: B) (x := x) ?_ hE (hcS.mono (fun k _ hk => ?_)) (fun k hk => .inl (by rw [hB'] at hk; exact hk))
    · refine HW.out.re hB' ?_ (chain_one HW.out.chain hcS (fun p hp => ?_) (fun p hp => ?_) ⟨_, hp4⟩) (fun p hp => ?_) hcS (by rintro (g | g); exact hne.1 g; exact (hne.2 (q, es) (by simp)).1 g.symm)
      · have : ((ents (A ++ (q, es.take i ++ e :: es.drop i) :: B)).length : Int) = (ents (A ++ (q, es) :: B)).length + 1 := by
          rw [hE, ents_append, ents_cons]
          simp [List.length_take]
          omega
        rw [this]
        exact ht4
      · rintro (g | g)
        · exact (hne.2 p (by simp [hp])).2 g
        · exact nA p hp g
      · rintro (g | g)
        · exact (hne.2 p (by simp [hp])).2 g
        · exact nB p hp g
      · rcases List.mem_append.1 hp with hp | hp
        · exact HW.out.sizes p (by simp [hp])
        · rcases List.mem_cons.1 hp with rfl | hp
          · have := (HW.out.sizes (q, es) (by simp)).1
            simp at this
            simp [List.length_take]
            omega
          · exact HW.out.sizes p (by simp [hp])
    · rcases hk with g | g
      · exact .inl (.inl g)
      · exact .inr (by rw [g]; simp [Blocks])
  · have hr2 : es.length = 128 := by omega
    have hrc : ((es.length : Int) < 128) = False := by simp; omega
    have HO := Lib.hid (fun w' (hb : Below w.heap.size w w') => over_root t x q i A B es e w' (HW.out.below hb) hr2 (by omega) hi1 (by simp; omega))
    rw [← HK.out] at HO
    go_wp2_with (first
      | (go_at_call 116; refine (HFL.out _ HB2.out).mono ?_; rintro y w3 ⟨rfl, hb3⟩; have eq0 := (hb3.cell (p := ⟨q, 0, none⟩) lq2).trans dq0; have eb0 := (hb3.cell (p := ⟨w.heap.size, 0, none⟩) lb2).trans db0; have eb1 := (hb3.cell (p := ⟨w.heap.size, 1, none⟩) lb2).trans db1; have lq3 : q < w3.heap.size := (by have := hb3.size; omega); have lb3 : w.heap.size < w3.heap.size := (by have := hb3.size; omega); have HB3 := Lib.hid ((up_below' HB2.out hb3).alloc (by omega) (.cells #[.int .i64 i] 3)))
      | (go_at_call 119; refine (HO.out _ HB3.out).mono ?_; rintro y w4 ⟨rfl, S', hat, hc4, hS⟩))
    first | go_end0 | refine bodyPost_ret (results_none rfl _ _ _) rfl ?_
    refine ⟨rfl, _, hat, (Chg.of_below HB3.out).next hc4 (fun k _ h => h), fun k hk => ?_⟩
    rcases hS k hk with h | h
    · exact .inl h
    · exact .inr (Nat.le_trans HB3.out.size h)

/-- Set of a key that is not there. -/
theorem set_any (t : Nat) (L : List XE) (S : Nat → Prop) (e : XE) (g : Nat) (cs : Nat → Int) (s : Nat → Int) (w : World) (h : TreeAt w t L S) (hlen : L.length ≤ 12800) (h0 : 0 ≤ e.h) (h1 : e.h ≤ 9223372036854775807)
    (ha : Asks w (.slice e.A e.m e.p) L cs) (hsd : ∀ (j : Nat) (e' : XE), L[j]? = some e' → s j = keyC (cs j) e.h e'.h) (hp : Pos s L.length g false) :
    Calls Tryd.prog 85 #[.pointer (some ⟨t, 0, none⟩), .agg #[.slice e.A e.m e.p, .int .i64 e.h], .int .i64 e.n] w (GrowP t (L.take g ++ e :: L.drop g) S w) := by
  cases h with
  | none h =>
    obtain ⟨ver, h⟩ := h
    have := set_none t e ver w h
    simpa using this
  | lone h => exact set_lone t _ g L e cs s w h h0 h1 ha hsd hp
  | many h =>
    rename_i x P
    have hP : P ≠ [] := by rintro rfl; have := h.two; simp at this
    obtain ⟨A, q, es, B, i, rfl, hg, hi, hi1⟩ := place P g hP hp.le
    have hl := h.pages
    rw [put_at hg hi]
    exact set_many t x q i g A B es e cs s w h (by omega) hg hi hi1 h0 h1 ha hsd hp

end Go.Proofs.YtffgkocokkhahaaDoor
