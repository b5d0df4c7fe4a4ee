/-
  Walking the tree: each entry in its turn, on and back; behind the last one. || impl.treeWalk. PRINTED BY wip/tpl/gen_ytw.py. || impl.treeWalk, back. PRINTED BY wip/tpl/gen_ytw.py. || impl.treeWalk where there is nothing.
-/
import Derived.Test.YtffgkocokkhahaaDoorTp16
import Derived.Test.YtffgkocokkhahaaDoorTp17
import Derived.Test.YtffgkocokkhahaaDoorTp12

/- Walking the tree: each entry in its turn, on and back; behind the last one. -/
namespace Go.Proofs.YtffgkocokkhahaaDoor
open Go.RowKit
variable {G : Value}

theorem chain_at {w : World} {A B : List Pg} {q : Nat} {es : List XE} (h : Chain w (.pointer none) (A ++ (q, es) :: B) (.pointer none)) : ∃ rest, PageAt w q es rest (hdp B (.pointer none)) (lastp (.pointer none) A) := ((chain_append _ _ _ _).1 h).2.1

/-- At the g-th entry, or behind the last one. -/
inductive AtN (P : List Pg) (w : World) (b t : Nat) (ver : Int) (E : Value) : Nat → Prop where
  | at_ {A B : List Pg} {q : Nat} {es : List XE} {i : Nat} {hit : Bool} {C : Option Addr} {m p : Nat} (hP : P = A ++ (q, es) :: B) (hi : i ≤ es.length) (h : EnumAt w b .nilIface hit i (.slice C m p) (ptr q) t ver) : AtN P w b t ver E ((ents A).length + i)
  | end_ {i : Nat} {hit : Bool} {kv : Value} (h : EnumAt w b E hit i kv (.pointer none) t ver) : AtN P w b t ver E (ents P).length
  | void {i : Nat} {hit : Bool} {C : Option Addr} {m p : Nat} (hP : P = []) (h : EnumAt w b .nilIface hit i (.slice C m p) (.pointer none) t ver) : AtN P w b t ver E 0

/-- At the g-th entry behind g others, or ahead of the first one (0). -/
inductive AtP (P : List Pg) (w : World) (b t : Nat) (ver : Int) (E : Value) : Nat → Prop where
  | at_ {A B : List Pg} {q : Nat} {es : List XE} {i : Nat} {hit : Bool} {C : Option Addr} {m p : Nat} (hP : P = A ++ (q, es) :: B) (hi : i ≤ es.length) (h : EnumAt w b .nilIface hit i (.slice C m p) (ptr q) t ver) : AtP P w b t ver E ((ents A).length + i + 1)
  | end_ {i : Nat} {hit : Bool} {kv : Value} (h : EnumAt w b E hit i kv (.pointer none) t ver) : AtP P w b t ver E 0
  | void {i : Nat} {hit : Bool} {C : Option Addr} {m p : Nat} (hP : P = []) (h : EnumAt w b .nilIface hit i (.slice C m p) (.pointer none) t ver) : AtP P w b t ver E 1

theorem ents_at {A B : List Pg} {q : Nat} {es : List XE} {i : Nat} {x : XE} (h : (ents (A ++ (q, es) :: B))[(ents A).length + i]? = some x) (hi : i < es.length) : es[i]? = some x := by
  rw [ents_append, ents_cons, List.getElem?_append_right (by omega), show (ents A).length + i - (ents A).length = i by omega, List.getElem?_append_left hi] at h
  exact h

/-- Behind a page's last entry: the next page's first. -/
theorem ents_at2 {A B : List Pg} {q : Nat} {es : List XE} {x : XE} (hn : ∀ p ∈ B, 1 ≤ p.2.length) (h : (ents (A ++ (q, es) :: B))[(ents A).length + es.length]? = some x) : ∃ q2 es2 B2, B = (q2, es2) :: B2 ∧ es2[0]? = some x := by
  rw [ents_append, ents_cons, List.getElem?_append_right (by omega), show (ents A).length + es.length - (ents A).length = es.length by omega, List.getElem?_append_right (Nat.le_refl _), Nat.sub_self] at h
  cases B with
  | nil => simp [ents] at h
  | cons p B =>
    obtain ⟨q2, es2⟩ := p
    have h1 : 1 ≤ es2.length := hn (q2, es2) (by simp)
    rw [ents_cons, List.getElem?_append_left (by show 0 < es2.length; omega)] at h
    exact ⟨q2, es2, B, rfl, h⟩

def GotP (x : XE) (b : Nat) (Q : World → Prop) (w : World) (y : Ending) (w' : World) : Prop :=
  y = .returned (.tuple #[.slice x.A x.m x.p, .slice x.B x.n x.q, .nilIface]) ∧ Q w' ∧ Chg (fun k => k = b) w w'

theorem Next_step {P : List Pg} {b t : Nat} {ver : Int} {E : Value} {g : Nat} {c : Int} {fi la r : Value} {w : World} (x : XE) (hch : Chain w (.pointer none) P (.pointer none)) (hn : ∀ p ∈ P, 1 ≤ p.2.length)
    (ht : TreeW G w t c fi la r ver) (hE : HasEof w E) (hbE : ¬ 0 = b) (h : AtN P w b t ver E g) (hx : (ents P)[g]? = some x) :
    Calls Tryd.prog 79 #[.pointer (some ⟨b, 0, none⟩)] w (GotP x b (fun w' => AtN P w' b t ver E (g + 1)) w) := by
  cases h with
  | end_ h => simp at hx
  | void hP h => subst hP; simp [ents] at hx
  | at_ hP hi h =>
    rename_i A B q es i hit C m p
    subst hP
    obtain ⟨rest, hq⟩ := chain_at hch
    have hle := hq.le
    have hbq : ¬ q = b := fun e => tag_ne h hq.heap (by decide) e.symm
    rcases Nat.lt_or_ge i es.length with h0 | h0
    · have hxi := ents_at hx h0
      rcases Nat.lt_or_ge (i + 1) es.length with h1 | h1
      · refine (Next_at b q i hit _ t ver es rest _ _ x c fi la r w h hq hxi ht ⟨_, _, _, rfl⟩ .nilIface (i + 1) (ptr q) (Lib.hid fun w1 hc1 he1 => next_in b q i false _ t ver es rest _ _ w1 he1 (hq.chg hc1 hbq) h1)).mono ?_
        rintro y w' ⟨rfl, he, hc⟩
        exact ⟨rfl, .at_ (i := i + 1) rfl (by omega) he, hc⟩
      · cases B with
        | nil =>
          refine (Next_at b q i hit _ t ver es rest _ _ x c fi la r w h hq hxi ht ⟨_, _, _, rfl⟩ E 0 (.pointer none) (Lib.hid fun w1 hc1 he1 => next_end b q i false _ t ver es rest _ E w1 he1 (hq.chg hc1 hbq) h1 (hE.chg hc1 hbE) hbE)).mono ?_
          rintro y w' ⟨rfl, he, hc⟩
          have e1 : (ents A).length + i + 1 = (ents (A ++ [(q, es)])).length := by rw [ents_append]; simp [ents]; omega
          refine ⟨rfl, ?_, hc⟩
          show AtN _ w' b t ver E ((ents A).length + i + 1)
          rw [e1]
          exact .end_ he
        | cons p2 B =>
          obtain ⟨q2, es2⟩ := p2
          refine (Next_at b q i hit _ t ver es rest _ _ x c fi la r w h hq hxi ht ⟨_, _, _, rfl⟩ .nilIface 0 (ptr q2) (Lib.hid fun w1 hc1 he1 => next_page b q i q2 false _ t ver es rest _ w1 he1 (hq.chg hc1 hbq) h1)).mono ?_
          rintro y w' ⟨rfl, he, hc⟩
          have e1 : (ents A).length + i + 1 = (ents (A ++ [(q, es)])).length + 0 := by rw [ents_append]; simp [ents]; omega
          refine ⟨rfl, ?_, hc⟩
          show AtN _ w' b t ver E ((ents A).length + i + 1)
          rw [e1]
          exact .at_ (A := A ++ [(q, es)]) (B := B) (q := q2) (es := es2) (by simp) (by omega) he
    · obtain rfl : i = es.length := by omega
      obtain ⟨q2, es2, B2, rfl, hx2⟩ := ents_at2 (fun p hp => hn p (by simp [hp])) hx
      have hl2 : 1 ≤ es2.length := hn (q2, es2) (by simp)
      have hch2 : Chain w (.pointer none) ((A ++ [(q, es)]) ++ (q2, es2) :: B2) (.pointer none) := by simpa using hch
      obtain ⟨rest2, hq2⟩ := chain_at hch2
      have hle2 := hq2.le
      have hbq2 : ¬ q2 = b := fun e => tag_ne h hq2.heap (by decide) e.symm
      have e0 : (ents A).length + es.length = (ents (A ++ [(q, es)])).length := by rw [ents_append]; simp [ents]
      have HV : Hid (∀ w', Below w.heap.size w w' → Calls Tryd.prog 113 #[.pointer (some ⟨b, 0, none⟩)] w' fun y w'' => y = .returned .nilIface ∧ EnumAt w'' b .nilIface hit ((0 : Nat) : Int) (.slice C m p) (ptr q2) t ver ∧ Chg (fun k => k = b) w' w'') :=
        Lib.hid (fun w' hb => next_page b q es.length q2 hit _ t ver es rest _ w' (heap_below h hb) (hq.below hb) (by omega))
      rcases Nat.lt_or_ge 1 es2.length with h1 | h1
      · refine (Next_over b q q2 es.length 0 hit _ t ver es rest _ _ es2 rest2 _ _ x c fi la r w h hq hq2 rfl hx2 ht ⟨_, _, _, rfl⟩ .nilIface 1 (ptr q2) HV (Lib.hid fun w1 hc1 he1 => next_in b q2 0 false _ t ver es2 rest2 _ _ w1 he1 (hq2.chg hc1 hbq2) h1)).mono ?_
        rintro y w' ⟨rfl, he, hc⟩
        refine ⟨rfl, ?_, hc⟩
        rw [e0]
        exact .at_ (A := A ++ [(q, es)]) (B := B2) (q := q2) (es := es2) (i := 1) (by simp) (by omega) he
      · cases B2 with
        | nil =>
          refine (Next_over b q q2 es.length 0 hit _ t ver es rest _ _ es2 rest2 _ _ x c fi la r w h hq hq2 rfl hx2 ht ⟨_, _, _, rfl⟩ E 0 (.pointer none) HV (Lib.hid fun w1 hc1 he1 => next_end b q2 0 false _ t ver es2 rest2 _ E w1 he1 (hq2.chg hc1 hbq2) h1 (hE.chg hc1 hbE) hbE)).mono ?_
          rintro y w' ⟨rfl, he, hc⟩
          have e1 : (ents A).length + es.length + 1 = (ents (A ++ (q, es) :: [(q2, es2)])).length := by rw [ents_append]; simp [ents]; omega
          refine ⟨rfl, ?_, hc⟩
          rw [e1]
          exact .end_ he
        | cons p3 B3 =>
          obtain ⟨q3, es3⟩ := p3
          refine (Next_over b q q2 es.length 0 hit _ t ver es rest _ _ es2 rest2 _ _ x c fi la r w h hq hq2 rfl hx2 ht ⟨_, _, _, rfl⟩ .nilIface 0 (ptr q3) HV (Lib.hid fun w1 hc1 he1 => next_page b q2 0 q3 false _ t ver es2 rest2 _ w1 he1 (hq2.chg hc1 hbq2) h1)).mono ?_
          rintro y w' ⟨rfl, he, hc⟩
          have e1 : (ents A).length + es.length + 1 = (ents (A ++ [(q, es), (q2, es2)])).length + 0 := by rw [ents_append]; simp [ents]; omega
          refine ⟨rfl, ?_, hc⟩
          rw [e1]
          exact .at_ (A := A ++ [(q, es), (q2, es2)]) (B := B3) (q := q3) (es := es3) (by simp) (by omega) he

theorem Prev_step {P : List Pg} {b t : Nat} {ver : Int} {E : Value} {g : Nat} {c : Int} {fi la r : Value} {w : World} (x : XE) (hch : Chain w (.pointer none) P (.pointer none)) (hn : ∀ p ∈ P, 1 ≤ p.2.length)
    (ht : TreeW G w t c fi la r ver) (hE : HasEof w E) (hbE : ¬ 0 = b) (h : AtP P w b t ver E (g + 1)) (hx : (ents P)[g]? = some x) :
    Calls Tryd.prog 80 #[.pointer (some ⟨b, 0, none⟩)] w (GotP x b (fun w' => AtP P w' b t ver E g) w) := by
  cases h with
  | void hP h => subst hP; simp [ents] at hx
  | at_ hP hi h =>
    rename_i A B q es i hit C m p
    subst hP
    obtain ⟨rest, hq⟩ := chain_at hch
    have hbq : ¬ q = b := fun e => tag_ne h hq.heap (by decide) e.symm
    have hle := hq.le
    rcases Nat.lt_or_ge i es.length with h0 | h0
    · have hxi := ents_at hx h0
      cases i with
      | succ j =>
        refine (Prev_at b q (j + 1) hit _ t ver es rest _ _ x c fi la r w h hq hxi ht ⟨_, _, _, rfl⟩ .nilIface j (ptr q) (Lib.hid fun w1 hc1 he1 => prev_in b q (j + 1) j false _ t ver w1 he1 rfl (by omega))).mono ?_
        rintro y w' ⟨rfl, he, hc⟩
        exact ⟨rfl, .at_ (i := j) rfl (by omega) he, hc⟩
      | zero =>
        rcases List.eq_nil_or_concat A with hA | ⟨A', ⟨q2, es2⟩, hA⟩
        · subst hA
          refine (Prev_at b q 0 hit _ t ver es rest _ _ x c fi la r w h hq hxi ht ⟨_, _, _, rfl⟩ E 0 (.pointer none) (Lib.hid fun w1 hc1 he1 => prev_end b q false _ t ver es rest _ E w1 he1 (hq.chg hc1 hbq) (hE.chg hc1 hbE) hbE)).mono ?_
          rintro y w' ⟨rfl, he, hc⟩
          exact ⟨rfl, .end_ he, hc⟩
        · have hA' : A = A' ++ [(q2, es2)] := by simpa using hA
          subst hA'
          have hl : lastp (.pointer none) (A' ++ [(q2, es2)]) = ptr q2 := by rw [lastp_append]; rfl
          rw [hl] at hq
          have hch2 : Chain w (.pointer none) (A' ++ (q2, es2) :: (q, es) :: B) (.pointer none) := by rw [List.append_assoc] at hch; exact hch
          obtain ⟨rest2, hq2⟩ := chain_at hch2
          have hbq2 : ¬ q2 = b := fun e => tag_ne h hq2.heap (by decide) e.symm
          obtain ⟨j, hj⟩ : ∃ j, es2.length = j + 1 := ⟨es2.length - 1, by have : 1 ≤ es2.length := hn (q2, es2) (by simp); omega⟩
          refine (Prev_at b q 0 hit _ t ver es rest _ _ x c fi la r w h hq hxi ht ⟨_, _, _, rfl⟩ .nilIface j (ptr q2) (Lib.hid fun w1 hc1 he1 => prev_page b q q2 j false _ t ver es es2 rest rest2 _ _ _ w1 he1 (hq.chg hc1 hbq) (hq2.chg hc1 hbq2) hj)).mono ?_
          rintro y w' ⟨rfl, he, hc⟩
          have e1 : (ents (A' ++ [(q2, es2)])).length + 0 = (ents A').length + j + 1 := by rw [ents_append]; simp [ents]; omega
          refine ⟨rfl, ?_, hc⟩
          show AtP _ w' b t ver E ((ents (A' ++ [(q2, es2)])).length + 0)
          rw [e1]
          exact .at_ (A := A') (B := (q, es) :: B) (q := q2) (es := es2) (by simp) (by omega) he
    · obtain rfl : i = es.length := by omega
      obtain ⟨q2, es2, B2, rfl, hx2⟩ := ents_at2 (fun p hp => hn p (by simp [hp])) hx
      have hl1 : 1 ≤ es.length := hn (q, es) (by simp)
      obtain ⟨j, hj⟩ : ∃ j, es.length = j + 1 := ⟨es.length - 1, by omega⟩
      have hch2 : Chain w (.pointer none) ((A ++ [(q, es)]) ++ (q2, es2) :: B2) (.pointer none) := by simpa using hch
      obtain ⟨rest2, hq2⟩ := chain_at hch2
      have hl : lastp (.pointer none) (A ++ [(q, es)]) = ptr q := by rw [lastp_append]; rfl
      rw [hl] at hq2
      have hbq2 : ¬ q2 = b := fun e => tag_ne h hq2.heap (by decide) e.symm
      have HV : Hid (∀ w', Below w.heap.size w w' → Calls Tryd.prog 113 #[.pointer (some ⟨b, 0, none⟩)] w' fun y w'' => y = .returned .nilIface ∧ EnumAt w'' b .nilIface hit ((0 : Nat) : Int) (.slice C m p) (ptr q2) t ver ∧ Chg (fun k => k = b) w' w'') :=
        Lib.hid (fun w' hb => next_page b q es.length q2 hit _ t ver es rest _ w' (heap_below h hb) (hq.below hb) (by omega))
      refine (Prev_over b q q2 es.length 0 hit _ t ver es rest _ _ es2 rest2 _ _ x c fi la r w h hq hq2 rfl hx2 ht ⟨_, _, _, rfl⟩ .nilIface j (ptr q) HV (Lib.hid fun w1 hc1 he1 => prev_page b q2 q j false _ t ver es2 es rest2 rest _ _ _ w1 he1 (hq2.chg hc1 hbq2) (hq.chg hc1 hbq) hj)).mono ?_
      rintro y w' ⟨rfl, he, hc⟩
      refine ⟨rfl, ?_, hc⟩
      rw [show (ents A).length + es.length = (ents A).length + j + 1 by omega]
      exact .at_ (A := A) (B := (q2, es2) :: B2) (q := q) (es := es) (i := j) rfl (by omega) he

theorem Next_stop {P : List Pg} {b t : Nat} {ver : Int} {E : Value} {c : Int} {fi la r : Value} {w : World} (hch : Chain w (.pointer none) P (.pointer none)) (hn : ∀ p ∈ P, 1 ≤ p.2.length)
    (ht : TreeW G w t c fi la r ver) (hE : HasEof w E) (hbE : ¬ 0 = b) (h : AtN P w b t ver E (ents P).length) :
    Calls Tryd.prog 79 #[.pointer (some ⟨b, 0, none⟩)] w (OverP E b w) := by
  generalize hg : (ents P).length = g at h
  cases h with
  | end_ h => exact Next_err hE.form h
  | void hP h => exact Next_void hE h ht hbE
  | at_ hP hi h =>
    rename_i A B q es i hit C m p
    subst hP
    obtain ⟨rest, hq⟩ := chain_at hch
    have hle := hq.le
    rw [ents_append, ents_cons] at hg
    simp at hg
    cases B with
    | cons p2 B =>
      have h1 := hn p2 (by simp)
      rw [ents_cons] at hg
      simp at hg
      omega
    | nil =>
      have hie : i = es.length := by simp [ents] at hg; omega
      subst hie
      exact Next_off b q es.length hit _ t ver es rest _ _ c fi la r E w h hq rfl ht ⟨_, _, _, rfl⟩ hE.form (Lib.hid fun w' hb => (next_end b q es.length hit _ t ver es rest _ E w' (heap_below h hb) (hq.below hb) (by omega) (hE.below hb) hbE).mono (fun _ _ h => ⟨h.1, h.2.2⟩))

theorem Prev_stop {P : List Pg} {b t : Nat} {ver : Int} {E : Value} {g : Nat} {c : Int} {fi la r : Value} {w : World} (hch : Chain w (.pointer none) P (.pointer none)) (hn : ∀ p ∈ P, 1 ≤ p.2.length)
    (ht : TreeW G w t c fi la r ver) (hE : HasEof w E) (hbE : ¬ 0 = b) (h : AtP P w b t ver E g) (hg : g = 0 ∨ g = (ents P).length + 1) :
    Calls Tryd.prog 80 #[.pointer (some ⟨b, 0, none⟩)] w (OverP E b w) := by
  cases h with
  | end_ h => exact Prev_err hE.form h
  | void hP h => exact Prev_void hE h ht hbE
  | at_ hP hi h =>
    rename_i A B q es i hit C m p
    subst hP
    obtain ⟨rest, hq⟩ := chain_at hch
    have hle := hq.le
    rw [ents_append, ents_cons] at hg
    simp at hg
    cases B with
    | cons p2 B =>
      have h1 := hn p2 (by simp)
      rw [ents_cons] at hg
      simp at hg
      omega
    | nil =>
      have hie : i = es.length := by simp [ents] at hg; omega
      subst hie
      exact Prev_off b q es.length hit _ t ver es rest _ _ c fi la r E w h hq rfl ht ⟨_, _, _, rfl⟩ hE.form (Lib.hid fun w' hb => (next_end b q es.length hit _ t ver es rest _ E w' (heap_below h hb) (hq.below hb) (by omega) (hE.below hb) hbE).mono (fun _ _ h => ⟨h.1, h.2.2⟩))

end Go.Proofs.YtffgkocokkhahaaDoor

/- impl.treeWalk. PRINTED BY wip/tpl/gen_ytw.py. -/
namespace Go.Proofs.YtffgkocokkhahaaDoor
open Go.RowKit

theorem info_pair : (Tryd.prog.info? 66).map (fun i => (i.zero, i.size, i.bytes)) = some (some (.agg #[.slice none 0 0, .slice none 0 0]), 2, 48) := by kernel_rfl

def XE.pr (e : XE) : PR := ⟨e.l, e.V⟩

/-- A pair that came out, of an entry. -/
structure PairOk (B : Nat) (w : World) (e : XE) (r : PairV) : Prop where
  k : OutL e.l r.k
  v : OutL e.V r.v
  ko : w.ownsRow B 58 5 (.slice r.kA r.k.length r.kc) r.k.length (flat VV.cells r.k)
  vo : w.ownsRow B 58 5 (.slice r.vA r.v.length r.vc) r.v.length (flat VV.cells r.v)

theorem own_ge {w : World} {B : Nat} {e : TypeId} {size n : Nat} {v : Value} {xs : List Value} (h : w.ownsRow B e size v n xs) {b : Nat} (hb : v.ownBlock = some b) : B ≤ b := by
  rcases h.2 with ⟨h2, _⟩ | ⟨g, cap, cur, e1, e2, _⟩
  · rw [h2] at hb; cases hb
  · rw [e1] at hb
    have : g = b := by simpa [Value.ownBlock] using hb
    subst this
    exact e2
theorem own_mono {w : World} {B C : Nat} {e : TypeId} {size n : Nat} {v : Value} {xs : List Value} (h : w.ownsRow B e size v n xs) (hb : C ≤ B) : w.ownsRow C e size v n xs :=
  ⟨h.1, h.2.elim .inl (fun ⟨g, cap, cur, e1, e2, e3⟩ => .inr ⟨g, cap, cur, e1, Nat.le_trans hb e2, e3⟩)⟩
/-- Rows of two types lie apart. -/
theorem own_own {w : World} {B C : Nat} {e f : TypeId} {s t n m : Nat} {u v : Value} {xs ys : List Value} (h : w.ownsRow B e s u n xs) (g : w.ownsRow C f t v m ys) (hne : e ≠ f) : ∀ b, u.ownBlock = some b → v.ownBlock ≠ some b := by
  intro b hb
  rcases h.2 with ⟨h2, _⟩ | ⟨k, cap, cur, e1, e2, e3, _⟩
  · rw [h2] at hb; cases hb
  · rw [e1] at hb
    have : k = b := by simpa [Value.ownBlock] using hb
    subst this
    exact own_ne g e3 (fun h => hne h.symm)

theorem PairOk.chg {B : Nat} {S : Nat → Prop} {w w' : World} {e : XE} {r : PairV} (h : PairOk B w e r) (hc : Chg S w w') (hn : ∀ b, ((Value.slice r.kA r.k.length r.kc).ownBlock = some b ∨ (Value.slice r.vA r.v.length r.vc).ownBlock = some b) → ¬ S b) : PairOk B w' e r :=
  ⟨h.k, h.v, own_chg h.ko hc (fun b hb => hn b (.inl hb)), own_chg h.vo hc (fun b hb => hn b (.inr hb))⟩
/-- Apart from what is of another type. -/
theorem PairOk.apart {B C : Nat} {w : World} {e : XE} {r : PairV} (h : PairOk B w e r) {f : TypeId} {t m : Nat} {v : Value} {ys : List Value} (g : w.ownsRow C f t v m ys) (hne : 58 ≠ f) : ∀ b, ((Value.slice r.kA r.k.length r.kc).ownBlock = some b ∨ (Value.slice r.vA r.v.length r.vc).ownBlock = some b) → v.ownBlock ≠ some b := by
  rintro b (hb | hb)
  · exact own_own h.ko g hne b hb
  · exact own_own h.vo g hne b hb
theorem PairOk.off {B : Nat} {w : World} {e : XE} {r : PairV} (h : PairOk B w e r) {a : Nat} {cs : Array Value} {f : TypeId} {fr : Nat × Nat} (ha : w.heap[a]? = some (.cells cs f fr)) (hne : 58 ≠ f) : ∀ b, ((Value.slice r.kA r.k.length r.kc).ownBlock = some b ∨ (Value.slice r.vA r.v.length r.vc).ownBlock = some b) → b ≠ a := by
  rintro b (hb | hb) rfl
  · exact own_ne h.ko ha hne hb
  · exact own_ne h.vo ha hne hb
theorem PairOk.ge {B : Nat} {w : World} {e : XE} {r : PairV} (h : PairOk B w e r) : ∀ b, ((Value.slice r.kA r.k.length r.kc).ownBlock = some b ∨ (Value.slice r.vA r.v.length r.vc).ownBlock = some b) → B ≤ b := by
  rintro b (hb | hb)
  · exact own_ge h.ko hb
  · exact own_ge h.vo hb

def PairsOk (B : Nat) (w : World) (es : List XE) (rs : List PairV) : Prop := ∀ (j : Nat) (e : XE) (r : PairV), es[j]? = some e → rs[j]? = some r → PairOk B w e r

/-- What a walk tells. -/
def TWalkP (n : Int) (hit : Bool) (ps : List PR) (b : Nat) (w : World) (y : Ending) (w' : World) : Prop :=
  ∃ P c rs, y = .returned (.agg #[.bool hit, .int .i64 0, .slice none 0 0, .slice P rs.length c]) ∧ PairsIn (fun z => w.heap.size ≤ z ∧ z < w'.heap.size) w' P rs ∧ PairsOut (ps.take n.toNat) rs ∧ Chg (fun z => z = b) w w'

theorem twalk_fin {n : Int} {hit : Bool} {es : List XE} {b k c : Nat} {w wr W : World} {rs : List PairV} {P : Option Addr} {cs : Array Value} (hA : wr.heap[w.heap.size]? = some (.cells cs 35 (0, 0)))
    (hown : wr.ownsRow w.heap.size 66 2 (.slice P k c) k (flat PairV.cells rs)) (hok : PairsOk w.heap.size wr es rs) (hW : Chg (fun x => x = b) w wr) (hc : Chg (fun x => x = w.heap.size) wr W) (hrs : rs.length = k) (hk : k ≤ es.length) (h0 : 0 ≤ n) (hkn : (k : Int) ≤ n) (hor : (k : Int) = n ∨ k = es.length) :
    TWalkP n hit (es.map XE.pr) b w (.returned (.agg #[.bool hit, .int .i64 0, .slice none 0 0, .slice P k c])) W := by
  have hl : ((es.map XE.pr).take n.toNat).length = k := by simp; omega
  subst hrs
  have ho2 := own_chg hown hc (fun x hx h => own_ne hown hA (by decide) (by rw [hx, h]))
  have hk2 : ∀ (j : Nat) (e : XE) (r : PairV), es[j]? = some e → rs[j]? = some r → PairOk w.heap.size W e r := fun j e r he hr => (hok j e r he hr).chg hc (fun x hx h => (hok j e r he hr).off hA (by decide) x hx h)
  have hin : ∀ r ∈ rs, ∃ e, PairOk w.heap.size W e r := fun r hr => by
    obtain ⟨j, hj, rfl⟩ := List.getElem_of_mem hr
    exact ⟨es[j]'(by omega), hk2 j _ _ (List.getElem?_eq_getElem _) (List.getElem?_eq_getElem hj)⟩
  refine ⟨P, c, rs, rfl, ⟨Reads.of_own ho2, own_in ho2, fun r hr => ?_, fun r hr => ?_⟩, ⟨hl.symm, fun j p r hp hr => ?_⟩, hW.next hc (fun x hx h => by omega)⟩
  · obtain ⟨e, he⟩ := hin r hr
    exact ValsIn.own he.ko
  · obtain ⟨e, he⟩ := hin r hr
    exact ValsIn.own he.vo
  · have hj : j < n.toNat := by
      have := (List.getElem?_eq_some_iff.1 hp).1
      simp at this
      omega
    rw [List.getElem?_take_of_lt hj, List.getElem?_map] at hp
    obtain ⟨e, he, rfl⟩ := Option.map_eq_some_iff.1 hp
    have := hk2 j e r he hr
    exact ⟨this.k, this.v⟩

theorem twalk_kc {wr w1 w2 w3 w4 : World} {a b : Nat} {o : Obj} {R : Value} (HC1 : Chg (fun z => z = b) wr w1) (HB2 : Below w1.heap.size w1 w2) (HB3 : Below w2.heap.size w2 w3) (HG : (w3.alloc o).grownBy w4 R.ownBlock) (v : Value) :
    Chg (fun z => z = b ∨ R.ownBlock = some z ∨ z = a) wr (w4.setCell ⟨a, 3, none⟩ v) := by
  have k1 : Chg (fun z => R.ownBlock = some z ∨ z = a) w3 w4 := ((Chg.refl _ w3).alloc o).next (Chg.of_grown HG) (fun z _ h => .inl h.symm)
  exact (HC1.mono (fun _ _ h => .inl h)).next ((Chg.of_below HB2).next ((Chg.of_below HB3).next (k1.setCell (p := ⟨a, 3, none⟩) (.inl (.inr rfl)) v) (fun _ _ h => h)) (fun _ _ h => h)) (fun _ _ h => .inr h)

theorem twalk_step {hit : Bool} {es : List XE} {b k gg cap c2 c3 : Nat} {w wr w1 w2 w3 w4 : World} {rs : List PairV} {R : Value} {x : XE} {A2 A3 : Option Addr} {us2 us3 : List VV} {o : Obj} {cs : Array Value} (lb : b < w.heap.size)
    (HA : wr.heap[w.heap.size]? = some (.cells cs 35 (0, 0))) (HB : wr.heap[w.heap.size + 1]? = some (.cells #[.bool hit, .int .i64 0, .slice none 0 0, R] 35 (0, 0)))
    (HO : wr.ownsRow w.heap.size 66 2 R k (flat PairV.cells rs)) (HK : PairsOk w.heap.size wr es rs) (HW : Chg (fun z => z = b) w wr) (HRS : rs.length = k) (HX : es[k]? = some x)
    (kc : Chg (fun z => z = b ∨ R.ownBlock = some z ∨ z = w.heap.size + 1) wr (w4.setCell ⟨w.heap.size + 1, 3, none⟩ (.slice (some ⟨gg, 0, none⟩) (k + 1) cap)))
    (HB4 : w4.heap[w.heap.size + 1]? = some (.cells #[.bool hit, .int .i64 0, .slice none 0 0, R] 35 (0, 0))) (HO1 : w1.ownsRow w.heap.size 66 2 R k (flat PairV.cells rs)) (HB1 : w1.heap[w.heap.size + 1]? = some (.cells #[.bool hit, .int .i64 0, .slice none 0 0, R] 35 (0, 0)))
    (HW1 : Chg (fun z => z = b) w w1) (HB2 : Below w1.heap.size w1 w2) (HB3 : Below w2.heap.size w2 w3)
    (HO2 : w2.ownsRow w1.heap.size 58 5 (.slice A2 x.l.length c2) x.l.length (flat VV.cells us2)) (HL2 : us2.length = x.l.length) (HU2 : ∀ (j : Nat) (a u : VV), x.l[j]? = some a → us2[j]? = some u → OutOf a u)
    (HO3 : w3.ownsRow w2.heap.size 58 5 (.slice A3 x.V.length c3) x.V.length (flat VV.cells us3)) (HL3 : us3.length = x.V.length) (HU3 : ∀ (j : Nat) (a u : VV), x.V[j]? = some a → us3[j]? = some u → OutOf a u)
    (HG4 : (w3.alloc o).grownBy w4 R.ownBlock) (HO4 : w4.ownsRow w.heap.size 66 2 (.slice (some ⟨gg, 0, none⟩) (k + 1) cap) (k + 1) (flat PairV.cells rs ++ [.slice A2 x.l.length c2, .slice A3 x.V.length c3])) :
    (rs ++ [(⟨A2, c2, us2, A3, c3, us3⟩ : PairV)]).length = k + 1 ∧
      (w4.setCell ⟨w.heap.size + 1, 3, none⟩ (.slice (some ⟨gg, 0, none⟩) (k + 1) cap)).heap[w.heap.size]? = some (.cells cs 35 (0, 0)) ∧
      (w4.setCell ⟨w.heap.size + 1, 3, none⟩ (.slice (some ⟨gg, 0, none⟩) (k + 1) cap)).heap[w.heap.size + 1]? = some (.cells #[.bool hit, .int .i64 0, .slice none 0 0, .slice (some ⟨gg, 0, none⟩) (k + 1) cap] 35 (0, 0)) ∧
      (w4.setCell ⟨w.heap.size + 1, 3, none⟩ (.slice (some ⟨gg, 0, none⟩) (k + 1) cap)).ownsRow w.heap.size 66 2 (.slice (some ⟨gg, 0, none⟩) (k + 1) cap) (k + 1) (flat PairV.cells (rs ++ [⟨A2, c2, us2, A3, c3, us3⟩])) ∧
      PairsOk w.heap.size (w4.setCell ⟨w.heap.size + 1, 3, none⟩ (.slice (some ⟨gg, 0, none⟩) (k + 1) cap)) es (rs ++ [⟨A2, c2, us2, A3, c3, us3⟩]) ∧
      Chg (fun z => z = b) w (w4.setCell ⟨w.heap.size + 1, 3, none⟩ (.slice (some ⟨gg, 0, none⟩) (k + 1) cap)) := by
  have hAR : R.ownBlock ≠ some w.heap.size := own_ne HO HA (by decide)
  have hBR : R.ownBlock ≠ some (w.heap.size + 1) := own_ne HO1 HB1 (by decide)
  have hw1 := HW1.size
  have h12 := HB2.size
  have h23 := HB3.size
  have lA := lt_of_heap HB1
  refine ⟨by simp [HRS], heap_chg HA kc (by rintro (h | h | h); omega; exact hAR h; omega), heap_set HB4 3 _, ?_, ?_, ?_⟩
  · have h1 := own_ne HO4 HB4 (by decide)
    have h2 := ownsRow_setCell_other HO4 (a := ⟨w.heap.size + 1, 3, none⟩) h1 (.slice (some ⟨gg, 0, none⟩) (k + 1) cap)
    rw [flat_append]
    have e1 : flat PairV.cells [(⟨A2, c2, us2, A3, c3, us3⟩ : PairV)] = [.slice A2 x.l.length c2, .slice A3 x.V.length c3] := by simp [flat, PairV.cells, HL2, HL3]
    rw [e1]
    exact h2
  · intro j e r he hr
    rcases Nat.lt_or_ge j k with h | h
    · rw [List.getElem?_append_left (by omega)] at hr
      have hrow := HK j e r he hr
      refine hrow.chg kc (fun z hz hS => ?_)
      rcases hS with hS | hS | hS
      · have := hrow.ge z hz
        omega
      · exact hrow.apart HO (by decide) z hz hS
      · exact hrow.off HB (by decide) z hz hS
    · rw [List.getElem?_append_right (by omega), HRS] at hr
      have hj : j = k := by
        rcases Nat.eq_or_lt_of_le h with h | h
        · exact h.symm
        · rw [List.getElem?_eq_none (by simp; omega)] at hr
          cases hr
      subst hj
      rw [Nat.sub_self] at hr
      obtain rfl : (⟨A2, c2, us2, A3, c3, us3⟩ : PairV) = r := Option.some.inj hr
      obtain rfl : e = x := Option.some.inj (he.symm.trans HX)
      have k1 : Chg (fun z => R.ownBlock = some z ∨ z = w.heap.size + 1) w3 w4 := ((Chg.refl _ w3).alloc _).next (Chg.of_grown HG4) (fun z _ h => .inl h.symm)
      have k2 := k1.setCell (p := ⟨w.heap.size + 1, 3, none⟩) (.inl (.inr rfl)) (.slice (some ⟨gg, 0, none⟩) (j + 1) cap)
      have hlow : ∀ z, w1.heap.size ≤ z → ¬ (R.ownBlock = some z ∨ z = w.heap.size + 1) := fun z hz hS => by
        rcases hS with hS | hS
        · have := own_lt HO1 hS
          omega
        · omega
      refine ⟨⟨HL2, HU2⟩, ⟨HL3, HU3⟩, ?_, ?_⟩
      · show World.ownsRow _ _ _ _ (.slice A2 us2.length c2) us2.length (flat VV.cells us2)
        rw [HL2]
        exact own_chg (own_mono (own_below HO2 HB3) (by omega)) k2 (fun z hz => hlow z (own_ge HO2 hz))
      · show World.ownsRow _ _ _ _ (.slice A3 us3.length c3) us3.length (flat VV.cells us3)
        rw [HL3]
        exact own_chg (own_mono HO3 (by omega)) k2 (fun z hz => hlow z (by have := own_ge HO3 hz; omega))
  · exact HW.next kc (fun z hz h => by
      rcases h with h | h | h
      · exact h
      · have := own_ge HO h; omega
      · omega)

set_option maxRecDepth 100000 in
set_option maxHeartbeats 3200000 in
theorem twalk_next (b : Nat) (n : Int) (hit : Bool) (es : List XE) (It : Nat → World → Prop) (E : Value) (w : World) (h0 : 0 ≤ n) (h1 : n ≤ 1000000) (lb : b < w.heap.size) (hE : ∃ a, E = .iface 246 (.pointer (some a))) (hI : It 0 w)
    (HS : Hid (∀ k x w1, Chg (fun x => x = b) w w1 → It k w1 → es[k]? = some x → Calls Tryd.prog 79 #[.pointer (some ⟨b, 0, none⟩)] w1 (GotP x b (It (k + 1)) w1)))
    (HE : Hid (∀ w1, Chg (fun x => x = b) w w1 → It es.length w1 → Calls Tryd.prog 79 #[.pointer (some ⟨b, 0, none⟩)] w1 (OverP E b w1)))
    (HC : Hid (∀ k w1 w2 (S : Nat → Prop), It k w1 → Chg S w1 w2 → ¬ S b → It k w2))
    (HD : Hid (∀ (k : Nat) (x : XE) (w1 : World), Chg (fun x => x = b) w w1 → es[k]? = some x → Calls Tryd.prog 39 #[.slice x.A x.m x.p] w1 (OutsPost x.l w1) ∧ Calls Tryd.prog 39 #[.slice x.B x.n x.q] w1 (OutsPost x.V w1))) :
    Calls Tryd.prog 46 #[.pointer (some ⟨b, 0, none⟩), .nilIface, .int .i64 n, .bool true, .bool hit] w (TWalkP n hit (es.map XE.pr) b w) := by
  obtain ⟨i0, hi, hz0, hz1, hz2⟩ := info_parts info_pair
  obtain ⟨aE, rfl⟩ := hE
  have HI := Lib.hid hI
  clear hI
  go_enter Tryd.func46, Tryd.ntmps46
  go_wp2
  go_loopw [1, 12] (fun er i wr => ∃ (k : Nat) (rs : List PairV) (R : Value), rs.length = k ∧ k ≤ es.length ∧ (k : Int) ≤ n ∧
      wr.heap[w.heap.size]? = some (.cells #[.bool false, .int .i64 0, .slice none 0 0, .slice none 0 0] 35 (0, 0)) ∧ wr.heap[w.heap.size + 1]? = some (.cells #[.bool hit, .int .i64 0, .slice none 0 0, R] 35 (0, 0)) ∧
      wr.ownsRow w.heap.size 66 2 R k (flat PairV.cells rs) ∧ PairsOk w.heap.size wr es rs ∧ Chg (fun x => x = b) w wr ∧
      ((er = .nilIface ∧ i = .int .i64 k ∧ It k wr) ∨ (er = .iface 246 (.pointer (some aE)) ∧ k = es.length ∧ i = .int .i64 (k + 1)))) (fun _ i _ => (n + 2 - intOf i).toNat)
  case atStart =>
    refine ⟨0, [], .slice none 0 0, rfl, Nat.zero_le _, h0, ?_, ?_, World.ownsRow_nil _ _ _ _, fun j e r _ h => by simp at h, ((Chg.refl _ _).alloc _).alloc _, .inl ⟨rfl, rfl, HC.out 0 w _ (fun _ => False) HI.out (((Chg.refl _ _).alloc _).alloc _) id⟩⟩
    · exact (heap_alloc_ne _ _ _ (by simp)).trans (heap_new w _)
    · have := heap_new (w.alloc (.cells #[.bool false, .int .i64 0, .slice none 0 0, .slice none 0 0] 35)) (.cells #[.bool hit, .int .i64 0, .slice none 0 0, .slice none 0 0] 35)
      simpa using this
  case round =>
    obtain ⟨k, rs, R, hrs, hk, hkn, hA, hB, hown, hok, hch, hor⟩ := hrel
    have HA := Lib.hid hA
    have HB := Lib.hid hB
    have HO := Lib.hid hown
    have HK := Lib.hid hok
    have HW := Lib.hid hch
    have HRS := Lib.hid hrs
    have hs := hch.size
    clear hA hB hown hok hch hrs
    rcases hor with ⟨rfl, rfl, hI⟩ | ⟨rfl, hke, rfl⟩
    · by_cases hlt : (k : Int) < n
      · have hkw : IntKind.i64.wrap ((k : Int) + 1) = (k : Int) + 1 := IntWalk.i64_in _ (by omega)
        rcases Nat.lt_or_ge k es.length with hlt2 | hge
        · obtain ⟨x, hx⟩ : ∃ x, es[k]? = some x := ⟨_, List.getElem?_eq_getElem hlt2⟩
          have HX := Lib.hid hx
          have HN := Lib.hid (HS.out k x wr HW.out hI hx)
          clear hx hI
          go_wp2_with (go_at_call 79
                       refine HN.out.mono ?_
                       rintro y w1 ⟨rfl, hI1, hc1⟩
                       have HI1 := Lib.hid hI1
                       have HC1 := Lib.hid hc1
                       have hs1 := hc1.size
                       clear hI1 hc1)
          have hW1 : Chg (fun z => z = b) w w1 := HW.out.trans HC1.out
          have HW1 := Lib.hid hW1
          have HB1 := Lib.hid (heap_chg HB.out HC1.out (by omega))
          have HO1 := Lib.hid (own_chg HO.out HC1.out (fun z hz h => by have := own_ge HO.out hz; omega))
          have lA := lt_of_heap HB1.out
          have b2 : w1.cell? ⟨w.heap.size + 1, 3, none⟩ = some R := cell_of_heap HB1.out 3
          clear hW1
          go_region_law
            (first
              | (refine step_append_lies _ (by rfl) _ _ _ (by rfl) w.heap.size 66 i0 _ 2 48 Tryd.underlying31 hi hz0 hz1 hz2 rfl (by omega) R k (flat PairV.cells rs) (by rfl) ((own_below (own_below HO1.out HB2.out) HB3.out).alloc _)
                  ⟨w3.heap.size, 0, none⟩ 1 1 [.slice A2 x.l.length c2, .slice A3 x.V.length c3] (by rfl) (by rfl) (World.news_of_block (cs := #[.slice A2 x.l.length c2, .slice A3 x.V.length c3]) (t := 66) (fr := (0, 0)) (heap_new w3 _)) (by simp [Value.oneCell'])
                  (by omega) (by simp only [maxLen]; omega) (by omega) (by have := HB2.out.size; have := HB3.out.size; simp; omega) (w3.heap.size + 1) (by simp) ?_
                 intro gg cap w4 hown4 hgrow hat hlt
                 have HG4 := Lib.hid hgrow
                 have HO4 := Lib.hid hown4
                 have HB4 : Hid (w4.heap[w.heap.size + 1]? = some (.cells #[.bool hit, .int .i64 0, .slice none 0 0, R] 35 (0, 0))) := Lib.hid ((hgrow.block _ (by have := HB2.out.size; have := HB3.out.size; simp; omega) (Ne.symm (own_ne HO1.out HB1.out (by decide)))).trans ((heap_alloc_ne _ _ _ (by have := HB2.out.size; have := HB3.out.size; omega)).trans ((HB3.out.block _ (by have := HB2.out.size; omega)).trans ((HB2.out.block _ lA).trans HB1.out))))
                 have c4 : w4.cell? ⟨w.heap.size + 1, 3, none⟩ = some R := cell_of_heap HB4.out 3
                 have f4 : w4.frozen? ⟨w.heap.size + 1, 3, none⟩ = false := free_of_heap HB4.out 3
                 clear hgrow hown4)
              | (go_simp; go_at_call_of 39 (Value.slice x.A x.m x.p)
                 refine (HD.out k x _ (by first | exact HW1.out | exact HW1.out.drew) HX.out).1.mono ?_
                 rintro y w2 ⟨A2, c2, us2, rfl, hown2, hlen2, hout2, hb2⟩
                 have HB2 : Hid (Below w1.heap.size w1 w2) := (by first | exact Lib.hid hb2 | exact Lib.hid ⟨hb2.os, hb2.tape, hb2.output, hb2.size, hb2.block⟩)
                 have HO2 : Hid (w2.ownsRow w1.heap.size 58 5 (.slice A2 x.l.length c2) x.l.length (flat VV.cells us2)) := Lib.hid hown2
                 have HL2 := Lib.hid hlen2
                 have HU2 := Lib.hid hout2
                 have HW2 : Hid (Chg (fun z => z = b) w w2) := Lib.hid (HW1.out.trans (Chg.of_below HB2.out))
                 have d2 : w2.cell? ⟨w.heap.size + 1, 3, none⟩ = some R := (World.cell?_of_block (HB2.out.block _ lA)).trans b2
                 clear hb2 hown2 hlen2 hout2)
              | (go_simp; go_at_call_of 39 (Value.slice x.B x.n x.q)
                 refine (HD.out k x _ (by first | exact HW2.out | exact HW2.out.drew) HX.out).2.mono ?_
                 rintro y w3 ⟨A3, c3, us3, rfl, hown3, hlen3, hout3, hb3⟩
                 have HB3 : Hid (Below w2.heap.size w2 w3) := (by first | exact Lib.hid hb3 | exact Lib.hid ⟨hb3.os, hb3.tape, hb3.output, hb3.size, hb3.block⟩)
                 have HO3 : Hid (w3.ownsRow w2.heap.size 58 5 (.slice A3 x.V.length c3) x.V.length (flat VV.cells us3)) := Lib.hid hown3
                 have HL3 := Lib.hid hlen3
                 have HU3 := Lib.hid hout3
                 have d3 : w3.cell? ⟨w.heap.size + 1, 3, none⟩ = some R := (World.cell?_of_block (HB3.out.block _ (by show w.heap.size + 1 < w2.heap.size; have := HB2.out.size; omega))).trans d2
                 have d4 : (w3.alloc (.cells #[.slice A2 x.l.length c2, .slice A3 x.V.length c3] 66)).cell? ⟨w.heap.size + 1, 3, none⟩ = some R := (World.cell?_of_block (heap_alloc_ne w3 (w.heap.size + 1) _ (by have := HB2.out.size; have := HB3.out.size; omega))).trans d3
                 clear hb3 hown3 hlen3 hout3))
          all_goals
            go_wp2
            have kc := twalk_kc (a := w.heap.size + 1) HC1.out HB2.out HB3.out HG4.out (.slice (some ⟨gg, 0, none⟩) (k + 1) cap)
            have T := twalk_step lb HA.out HB.out HO.out HK.out HW.out HRS.out HX.out kc HB4.out HO1.out HB1.out HW1.out HB2.out HB3.out HO2.out HL2.out HU2.out HO3.out HL3.out HU3.out HG4.out HO4.out
            have hI2 := HC.out (k + 1) w1 _ _ HI1.out (twalk_kc (b := w.heap.size + 1) (a := w.heap.size + 1) (Chg.refl _ w1) HB2.out HB3.out HG4.out (.slice (some ⟨gg, 0, none⟩) (k + 1) cap)) (by rintro (h | h | h); omega; exact absurd (own_ge HO1.out h) (by omega); omega)
            exact ⟨⟨k + 1, _, _, T.1, hlt2, by push_cast; omega, T.2.1, T.2.2.1, T.2.2.2.1, T.2.2.2.2.1, T.2.2.2.2.2, .inl ⟨rfl, by push_cast; rfl, hI2⟩⟩, by simp [intOf]; omega⟩
        · have hke : k = es.length := by omega
          have HN := Lib.hid (HE.out wr HW.out (hke ▸ hI))
          clear hI
          go_wp2_with (go_at_call 79
                       refine HN.out.mono ?_
                       rintro y w1 ⟨rfl, hc1⟩
                       have HC1 := Lib.hid hc1
                       have hs1 := hc1.size
                       clear hc1)
          exact ⟨⟨k, rs, R, HRS.out, hk, hkn, heap_chg HA.out HC1.out (by omega), heap_chg HB.out HC1.out (by omega), own_chg HO.out HC1.out (fun z hz h => by have := own_ge HO.out hz; omega), fun j e r he hr => (HK.out j e r he hr).chg HC1.out (fun z hz h => by have := (HK.out j e r he hr).ge z hz; omega), HW.out.trans HC1.out, .inr ⟨rfl, hke, by rw [hke]⟩⟩, by simp [intOf]; omega⟩
      · obtain ⟨A', c', rfl⟩ := own_form HO.out
        have a0 := cell_of_heap HA.out 0
        have a1 := cell_of_heap HA.out 1
        have a2 := cell_of_heap HA.out 2
        have a3 := cell_of_heap HA.out 3
        have b0 := cell_of_heap HB.out 0
        have b1 := cell_of_heap HB.out 1
        have b2 := cell_of_heap HB.out 2
        have b3 := cell_of_heap HB.out 3
        have g0 := free_of_heap HA.out 0
        have g1 := free_of_heap HA.out 1
        have g2 := free_of_heap HA.out 2
        have g3 := free_of_heap HA.out 3
        go_wp2
        obtain ⟨W, hW⟩ : ∃ W, W = (((wr.setCell ⟨w.heap.size, 0, none⟩ (.bool hit)).setCell ⟨w.heap.size, 1, none⟩ (.int .i64 0)).setCell ⟨w.heap.size, 2, none⟩ (.slice none 0 0)).setCell ⟨w.heap.size, 3, none⟩ (.slice A' k c') := ⟨_, rfl⟩
        rw [← hW]
        have hh : W.heap[w.heap.size]? = some (.cells #[.bool hit, .int .i64 0, .slice none 0 0, .slice A' k c'] 35 (0, 0)) := by rw [hW, heap_setCell_at, heap_setCell_at, heap_setCell_at, heap_setCell_at, HA.out]; rfl
        have d0 : W.cell? ⟨w.heap.size, 0, none⟩ = some (.bool hit) := cell_of_heap hh 0
        have d1 : W.cell? ⟨w.heap.size, 1, none⟩ = some (.int .i64 0) := cell_of_heap hh 1
        have d2 : W.cell? ⟨w.heap.size, 2, none⟩ = some (.slice none 0 0) := cell_of_heap hh 2
        have d3 : W.cell? ⟨w.heap.size, 3, none⟩ = some (.slice A' k c') := cell_of_heap hh 3
        refine bodyPost_ret (v := .agg #[.bool hit, .int .i64 0, .slice none 0 0, .slice A' k c']) (by simp [results, Tryd.results46, go_sem, d0, d1, d2, d3]) rfl ?_
        exact twalk_fin HA.out HO.out HK.out HW.out (hW ▸ Chg.setCell (Chg.setCell (Chg.setCell (Chg.setCell (Chg.refl (fun x => x = w.heap.size) wr) (p := ⟨w.heap.size, _, none⟩) (.inl rfl) _) (p := ⟨w.heap.size, _, none⟩) (.inl rfl) _) (p := ⟨w.heap.size, _, none⟩) (.inl rfl) _) (p := ⟨w.heap.size, _, none⟩) (.inl rfl) _) HRS.out hk h0 hkn (by omega)
    · subst hke
      obtain ⟨A', c', rfl⟩ := own_form HO.out
      have a0 := cell_of_heap HA.out 0
      have a1 := cell_of_heap HA.out 1
      have a2 := cell_of_heap HA.out 2
      have a3 := cell_of_heap HA.out 3
      have b0 := cell_of_heap HB.out 0
      have b1 := cell_of_heap HB.out 1
      have b2 := cell_of_heap HB.out 2
      have b3 := cell_of_heap HB.out 3
      have g0 := free_of_heap HA.out 0
      have g1 := free_of_heap HA.out 1
      have g2 := free_of_heap HA.out 2
      have g3 := free_of_heap HA.out 3
      go_wp2
      obtain ⟨W, hW⟩ : ∃ W, W = (((wr.setCell ⟨w.heap.size, 0, none⟩ (.bool hit)).setCell ⟨w.heap.size, 1, none⟩ (.int .i64 0)).setCell ⟨w.heap.size, 2, none⟩ (.slice none 0 0)).setCell ⟨w.heap.size, 3, none⟩ (.slice A' es.length c') := ⟨_, rfl⟩
      rw [← hW]
      have hh : W.heap[w.heap.size]? = some (.cells #[.bool hit, .int .i64 0, .slice none 0 0, .slice A' es.length c'] 35 (0, 0)) := by rw [hW, heap_setCell_at, heap_setCell_at, heap_setCell_at, heap_setCell_at, HA.out]; rfl
      have d0 : W.cell? ⟨w.heap.size, 0, none⟩ = some (.bool hit) := cell_of_heap hh 0
      have d1 : W.cell? ⟨w.heap.size, 1, none⟩ = some (.int .i64 0) := cell_of_heap hh 1
      have d2 : W.cell? ⟨w.heap.size, 2, none⟩ = some (.slice none 0 0) := cell_of_heap hh 2
      have d3 : W.cell? ⟨w.heap.size, 3, none⟩ = some (.slice A' es.length c') := cell_of_heap hh 3
      refine bodyPost_ret (v := .agg #[.bool hit, .int .i64 0, .slice none 0 0, .slice A' es.length c']) (by simp [results, Tryd.results46, go_sem, d0, d1, d2, d3]) rfl ?_
      exact twalk_fin HA.out HO.out HK.out HW.out (hW ▸ Chg.setCell (Chg.setCell (Chg.setCell (Chg.setCell (Chg.refl (fun x => x = w.heap.size) wr) (p := ⟨w.heap.size, _, none⟩) (.inl rfl) _) (p := ⟨w.heap.size, _, none⟩) (.inl rfl) _) (p := ⟨w.heap.size, _, none⟩) (.inl rfl) _) (p := ⟨w.heap.size, _, none⟩) (.inl rfl) _) HRS.out hk h0 hkn (by omega)

end Go.Proofs.YtffgkocokkhahaaDoor

/- impl.treeWalk, back. PRINTED BY wip/tpl/gen_ytw.py. -/
namespace Go.Proofs.YtffgkocokkhahaaDoor
open Go.RowKit

set_option maxRecDepth 100000 in
set_option maxHeartbeats 3200000 in
theorem twalk_prev (b : Nat) (n : Int) (hit : Bool) (es : List XE) (It : Nat → World → Prop) (E : Value) (w : World) (h0 : 0 ≤ n) (h1 : n ≤ 1000000) (lb : b < w.heap.size) (hE : ∃ a, E = .iface 246 (.pointer (some a))) (hI : It 0 w)
    (HS : Hid (∀ k x w1, Chg (fun x => x = b) w w1 → It k w1 → es[k]? = some x → Calls Tryd.prog 80 #[.pointer (some ⟨b, 0, none⟩)] w1 (GotP x b (It (k + 1)) w1)))
    (HE : Hid (∀ w1, Chg (fun x => x = b) w w1 → It es.length w1 → Calls Tryd.prog 80 #[.pointer (some ⟨b, 0, none⟩)] w1 (OverP E b w1)))
    (HC : Hid (∀ k w1 w2 (S : Nat → Prop), It k w1 → Chg S w1 w2 → ¬ S b → It k w2))
    (HD : Hid (∀ (k : Nat) (x : XE) (w1 : World), Chg (fun x => x = b) w w1 → es[k]? = some x → Calls Tryd.prog 39 #[.slice x.A x.m x.p] w1 (OutsPost x.l w1) ∧ Calls Tryd.prog 39 #[.slice x.B x.n x.q] w1 (OutsPost x.V w1))) :
    Calls Tryd.prog 46 #[.pointer (some ⟨b, 0, none⟩), .nilIface, .int .i64 n, .bool false, .bool hit] w (TWalkP n hit (es.map XE.pr) b w) := by
  obtain ⟨i0, hi, hz0, hz1, hz2⟩ := info_parts info_pair
  obtain ⟨aE, rfl⟩ := hE
  have HI := Lib.hid hI
  clear hI
  go_enter Tryd.func46, Tryd.ntmps46
  go_wp2
  go_loopw [1, 12] (fun er i wr => ∃ (k : Nat) (rs : List PairV) (R : Value), rs.length = k ∧ k ≤ es.length ∧ (k : Int) ≤ n ∧
      wr.heap[w.heap.size]? = some (.cells #[.bool false, .int .i64 0, .slice none 0 0, .slice none 0 0] 35 (0, 0)) ∧ wr.heap[w.heap.size + 1]? = some (.cells #[.bool hit, .int .i64 0, .slice none 0 0, R] 35 (0, 0)) ∧
      wr.ownsRow w.heap.size 66 2 R k (flat PairV.cells rs) ∧ PairsOk w.heap.size wr es rs ∧ Chg (fun x => x = b) w wr ∧
      ((er = .nilIface ∧ i = .int .i64 k ∧ It k wr) ∨ (er = .iface 246 (.pointer (some aE)) ∧ k = es.length ∧ i = .int .i64 (k + 1)))) (fun _ i _ => (n + 2 - intOf i).toNat)
  case atStart =>
    refine ⟨0, [], .slice none 0 0, rfl, Nat.zero_le _, h0, ?_, ?_, World.ownsRow_nil _ _ _ _, fun j e r _ h => by simp at h, ((Chg.refl _ _).alloc _).alloc _, .inl ⟨rfl, rfl, HC.out 0 w _ (fun _ => False) HI.out (((Chg.refl _ _).alloc _).alloc _) id⟩⟩
    · exact (heap_alloc_ne _ _ _ (by simp)).trans (heap_new w _)
    · have := heap_new (w.alloc (.cells #[.bool false, .int .i64 0, .slice none 0 0, .slice none 0 0] 35)) (.cells #[.bool hit, .int .i64 0, .slice none 0 0, .slice none 0 0] 35)
      simpa using this
  case round =>
    obtain ⟨k, rs, R, hrs, hk, hkn, hA, hB, hown, hok, hch, hor⟩ := hrel
    have HA := Lib.hid hA
    have HB := Lib.hid hB
    have HO := Lib.hid hown
    have HK := Lib.hid hok
    have HW := Lib.hid hch
    have HRS := Lib.hid hrs
    have hs := hch.size
    clear hA hB hown hok hch hrs
    rcases hor with ⟨rfl, rfl, hI⟩ | ⟨rfl, hke, rfl⟩
    · by_cases hlt : (k : Int) < n
      · have hkw : IntKind.i64.wrap ((k : Int) + 1) = (k : Int) + 1 := IntWalk.i64_in _ (by omega)
        rcases Nat.lt_or_ge k es.length with hlt2 | hge
        · obtain ⟨x, hx⟩ : ∃ x, es[k]? = some x := ⟨_, List.getElem?_eq_getElem hlt2⟩
          have HX := Lib.hid hx
          have HN := Lib.hid (HS.out k x wr HW.out hI hx)
          clear hx hI
          go_wp2_with (go_at_call 80
                       refine HN.out.mono ?_
                       rintro y w1 ⟨rfl, hI1, hc1⟩
                       have HI1 := Lib.hid hI1
                       have HC1 := Lib.hid hc1
                       have hs1 := hc1.size
                       clear hI1 hc1)
          have hW1 : Chg (fun z => z = b) w w1 := HW.out.trans HC1.out
          have HW1 := Lib.hid hW1
          have HB1 := Lib.hid (heap_chg HB.out HC1.out (by omega))
          have HO1 := Lib.hid (own_chg HO.out HC1.out (fun z hz h => by have := own_ge HO.out hz; omega))
          have lA := lt_of_heap HB1.out
          have b2 : w1.cell? ⟨w.heap.size + 1, 3, none⟩ = some R := cell_of_heap HB1.out 3
          clear hW1
          go_region_law
            (first
              | (refine step_append_lies _ (by rfl) _ _ _ (by rfl) w.heap.size 66 i0 _ 2 48 Tryd.underlying31 hi hz0 hz1 hz2 rfl (by omega) R k (flat PairV.cells rs) (by rfl) ((own_below (own_below HO1.out HB2.out) HB3.out).alloc _)
                  ⟨w3.heap.size, 0, none⟩ 1 1 [.slice A2 x.l.length c2, .slice A3 x.V.length c3] (by rfl) (by rfl) (World.news_of_block (cs := #[.slice A2 x.l.length c2, .slice A3 x.V.length c3]) (t := 66) (fr := (0, 0)) (heap_new w3 _)) (by simp [Value.oneCell'])
                  (by omega) (by simp only [maxLen]; omega) (by omega) (by have := HB2.out.size; have := HB3.out.size; simp; omega) (w3.heap.size + 1) (by simp) ?_
                 intro gg cap w4 hown4 hgrow hat hlt
                 have HG4 := Lib.hid hgrow
                 have HO4 := Lib.hid hown4
                 have HB4 : Hid (w4.heap[w.heap.size + 1]? = some (.cells #[.bool hit, .int .i64 0, .slice none 0 0, R] 35 (0, 0))) := Lib.hid ((hgrow.block _ (by have := HB2.out.size; have := HB3.out.size; simp; omega) (Ne.symm (own_ne HO1.out HB1.out (by decide)))).trans ((heap_alloc_ne _ _ _ (by have := HB2.out.size; have := HB3.out.size; omega)).trans ((HB3.out.block _ (by have := HB2.out.size; omega)).trans ((HB2.out.block _ lA).trans HB1.out))))
                 have c4 : w4.cell? ⟨w.heap.size + 1, 3, none⟩ = some R := cell_of_heap HB4.out 3
                 have f4 : w4.frozen? ⟨w.heap.size + 1, 3, none⟩ = false := free_of_heap HB4.out 3
                 clear hgrow hown4)
              | (go_simp; go_at_call_of 39 (Value.slice x.A x.m x.p)
                 refine (HD.out k x _ (by first | exact HW1.out | exact HW1.out.drew) HX.out).1.mono ?_
                 rintro y w2 ⟨A2, c2, us2, rfl, hown2, hlen2, hout2, hb2⟩
                 have HB2 : Hid (Below w1.heap.size w1 w2) := (by first | exact Lib.hid hb2 | exact Lib.hid ⟨hb2.os, hb2.tape, hb2.output, hb2.size, hb2.block⟩)
                 have HO2 : Hid (w2.ownsRow w1.heap.size 58 5 (.slice A2 x.l.length c2) x.l.length (flat VV.cells us2)) := Lib.hid hown2
                 have HL2 := Lib.hid hlen2
                 have HU2 := Lib.hid hout2
                 have HW2 : Hid (Chg (fun z => z = b) w w2) := Lib.hid (HW1.out.trans (Chg.of_below HB2.out))
                 have d2 : w2.cell? ⟨w.heap.size + 1, 3, none⟩ = some R := (World.cell?_of_block (HB2.out.block _ lA)).trans b2
                 clear hb2 hown2 hlen2 hout2)
              | (go_simp; go_at_call_of 39 (Value.slice x.B x.n x.q)
                 refine (HD.out k x _ (by first | exact HW2.out | exact HW2.out.drew) HX.out).2.mono ?_
                 rintro y w3 ⟨A3, c3, us3, rfl, hown3, hlen3, hout3, hb3⟩
                 have HB3 : Hid (Below w2.heap.size w2 w3) := (by first | exact Lib.hid hb3 | exact Lib.hid ⟨hb3.os, hb3.tape, hb3.output, hb3.size, hb3.block⟩)
                 have HO3 : Hid (w3.ownsRow w2.heap.size 58 5 (.slice A3 x.V.length c3) x.V.length (flat VV.cells us3)) := Lib.hid hown3
                 have HL3 := Lib.hid hlen3
                 have HU3 := Lib.hid hout3
                 have d3 : w3.cell? ⟨w.heap.size + 1, 3, none⟩ = some R := (World.cell?_of_block (HB3.out.block _ (by show w.heap.size + 1 < w2.heap.size; have := HB2.out.size; omega))).trans d2
                 have d4 : (w3.alloc (.cells #[.slice A2 x.l.length c2, .slice A3 x.V.length c3] 66)).cell? ⟨w.heap.size + 1, 3, none⟩ = some R := (World.cell?_of_block (heap_alloc_ne w3 (w.heap.size + 1) _ (by have := HB2.out.size; have := HB3.out.size; omega))).trans d3
                 clear hb3 hown3 hlen3 hout3))
          all_goals
            go_wp2
            have kc := twalk_kc (a := w.heap.size + 1) HC1.out HB2.out HB3.out HG4.out (.slice (some ⟨gg, 0, none⟩) (k + 1) cap)
            have T := twalk_step lb HA.out HB.out HO.out HK.out HW.out HRS.out HX.out kc HB4.out HO1.out HB1.out HW1.out HB2.out HB3.out HO2.out HL2.out HU2.out HO3.out HL3.out HU3.out HG4.out HO4.out
            have hI2 := HC.out (k + 1) w1 _ _ HI1.out (twalk_kc (b := w.heap.size + 1) (a := w.heap.size + 1) (Chg.refl _ w1) HB2.out HB3.out HG4.out (.slice (some ⟨gg, 0, none⟩) (k + 1) cap)) (by rintro (h | h | h); omega; exact absurd (own_ge HO1.out h) (by omega); omega)
            exact ⟨⟨k + 1, _, _, T.1, hlt2, by push_cast; omega, T.2.1, T.2.2.1, T.2.2.2.1, T.2.2.2.2.1, T.2.2.2.2.2, .inl ⟨rfl, by push_cast; rfl, hI2⟩⟩, by simp [intOf]; omega⟩
        · have hke : k = es.length := by omega
          have HN := Lib.hid (HE.out wr HW.out (hke ▸ hI))
          clear hI
          go_wp2_with (go_at_call 80
                       refine HN.out.mono ?_
                       rintro y w1 ⟨rfl, hc1⟩
                       have HC1 := Lib.hid hc1
                       have hs1 := hc1.size
                       clear hc1)
          exact ⟨⟨k, rs, R, HRS.out, hk, hkn, heap_chg HA.out HC1.out (by omega), heap_chg HB.out HC1.out (by omega), own_chg HO.out HC1.out (fun z hz h => by have := own_ge HO.out hz; omega), fun j e r he hr => (HK.out j e r he hr).chg HC1.out (fun z hz h => by have := (HK.out j e r he hr).ge z hz; omega), HW.out.trans HC1.out, .inr ⟨rfl, hke, by rw [hke]⟩⟩, by simp [intOf]; omega⟩
      · obtain ⟨A', c', rfl⟩ := own_form HO.out
        have a0 := cell_of_heap HA.out 0
        have a1 := cell_of_heap HA.out 1
        have a2 := cell_of_heap HA.out 2
        have a3 := cell_of_heap HA.out 3
        have b0 := cell_of_heap HB.out 0
        have b1 := cell_of_heap HB.out 1
        have b2 := cell_of_heap HB.out 2
        have b3 := cell_of_heap HB.out 3
        have g0 := free_of_heap HA.out 0
        have g1 := free_of_heap HA.out 1
        have g2 := free_of_heap HA.out 2
        have g3 := free_of_heap HA.out 3
        go_wp2
        obtain ⟨W, hW⟩ : ∃ W, W = (((wr.setCell ⟨w.heap.size, 0, none⟩ (.bool hit)).setCell ⟨w.heap.size, 1, none⟩ (.int .i64 0)).setCell ⟨w.heap.size, 2, none⟩ (.slice none 0 0)).setCell ⟨w.heap.size, 3, none⟩ (.slice A' k c') := ⟨_, rfl⟩
        rw [← hW]
        have hh : W.heap[w.heap.size]? = some (.cells #[.bool hit, .int .i64 0, .slice none 0 0, .slice A' k c'] 35 (0, 0)) := by rw [hW, heap_setCell_at, heap_setCell_at, heap_setCell_at, heap_setCell_at, HA.out]; rfl
        have d0 : W.cell? ⟨w.heap.size, 0, none⟩ = some (.bool hit) := cell_of_heap hh 0
        have d1 : W.cell? ⟨w.heap.size, 1, none⟩ = some (.int .i64 0) := cell_of_heap hh 1
        have d2 : W.cell? ⟨w.heap.size, 2, none⟩ = some (.slice none 0 0) := cell_of_heap hh 2
        have d3 : W.cell? ⟨w.heap.size, 3, none⟩ = some (.slice A' k c') := cell_of_heap hh 3
        refine bodyPost_ret (v := .agg #[.bool hit, .int .i64 0, .slice none 0 0, .slice A' k c']) (by simp [results, Tryd.results46, go_sem, d0, d1, d2, d3]) rfl ?_
        exact twalk_fin HA.out HO.out HK.out HW.out (hW ▸ Chg.setCell (Chg.setCell (Chg.setCell (Chg.setCell (Chg.refl (fun x => x = w.heap.size) wr) (p := ⟨w.heap.size, _, none⟩) (.inl rfl) _) (p := ⟨w.heap.size, _, none⟩) (.inl rfl) _) (p := ⟨w.heap.size, _, none⟩) (.inl rfl) _) (p := ⟨w.heap.size, _, none⟩) (.inl rfl) _) HRS.out hk h0 hkn (by omega)
    · subst hke
      obtain ⟨A', c', rfl⟩ := own_form HO.out
      have a0 := cell_of_heap HA.out 0
      have a1 := cell_of_heap HA.out 1
      have a2 := cell_of_heap HA.out 2
      have a3 := cell_of_heap HA.out 3
      have b0 := cell_of_heap HB.out 0
      have b1 := cell_of_heap HB.out 1
      have b2 := cell_of_heap HB.out 2
      have b3 := cell_of_heap HB.out 3
      have g0 := free_of_heap HA.out 0
      have g1 := free_of_heap HA.out 1
      have g2 := free_of_heap HA.out 2
      have g3 := free_of_heap HA.out 3
      go_wp2
      obtain ⟨W, hW⟩ : ∃ W, W = (((wr.setCell ⟨w.heap.size, 0, none⟩ (.bool hit)).setCell ⟨w.heap.size, 1, none⟩ (.int .i64 0)).setCell ⟨w.heap.size, 2, none⟩ (.slice none 0 0)).setCell ⟨w.heap.size, 3, none⟩ (.slice A' es.length c') := ⟨_, rfl⟩
      rw [← hW]
      have hh : W.heap[w.heap.size]? = some (.cells #[.bool hit, .int .i64 0, .slice none 0 0, .slice A' es.length c'] 35 (0, 0)) := by rw [hW, heap_setCell_at, heap_setCell_at, heap_setCell_at, heap_setCell_at, HA.out]; rfl
      have d0 : W.cell? ⟨w.heap.size, 0, none⟩ = some (.bool hit) := cell_of_heap hh 0
      have d1 : W.cell? ⟨w.heap.size, 1, none⟩ = some (.int .i64 0) := cell_of_heap hh 1
      have d2 : W.cell? ⟨w.heap.size, 2, none⟩ = some (.slice none 0 0) := cell_of_heap hh 2
      have d3 : W.cell? ⟨w.heap.size, 3, none⟩ = some (.slice A' es.length c') := cell_of_heap hh 3
      refine bodyPost_ret (v := .agg #[.bool hit, .int .i64 0, .slice none 0 0, .slice A' es.length c']) (by simp [results, Tryd.results46, go_sem, d0, d1, d2, d3]) rfl ?_
      exact twalk_fin HA.out HO.out HK.out HW.out (hW ▸ Chg.setCell (Chg.setCell (Chg.setCell (Chg.setCell (Chg.refl (fun x => x = w.heap.size) wr) (p := ⟨w.heap.size, _, none⟩) (.inl rfl) _) (p := ⟨w.heap.size, _, none⟩) (.inl rfl) _) (p := ⟨w.heap.size, _, none⟩) (.inl rfl) _) (p := ⟨w.heap.size, _, none⟩) (.inl rfl) _) HRS.out hk h0 hkn (by omega)

end Go.Proofs.YtffgkocokkhahaaDoor

/- impl.treeWalk where there is nothing. -/
namespace Go.Proofs.YtffgkocokkhahaaDoor
open Go.RowKit

set_option maxRecDepth 100000 in
set_option maxHeartbeats 3200000 in
theorem twalk_none (E : Value) (n : Int) (nx hit : Bool) (w : World) (hE : ∃ a, E = .iface 246 (.pointer (some a))) :
    Calls Tryd.prog 46 #[.pointer none, E, .int .i64 n, .bool nx, .bool hit] w fun y w' => y = .returned (.agg #[.bool hit, .int .i64 0, .slice none 0 0, .slice none 0 0]) ∧ Below w.heap.size w w' := by
  obtain ⟨aE, rfl⟩ := hE
  go_enter Tryd.func46, Tryd.ntmps46
  go_wp2
  go_loopw [1, 12] (fun er i wr => er = .iface 246 (.pointer (some aE)) ∧ i = .int .i64 0 ∧
      wr.heap[w.heap.size]? = some (.cells #[.bool false, .int .i64 0, .slice none 0 0, .slice none 0 0] 35 (0, 0)) ∧ wr.heap[w.heap.size + 1]? = some (.cells #[.bool hit, .int .i64 0, .slice none 0 0, .slice none 0 0] 35 (0, 0)) ∧ Below w.heap.size w wr) (fun _ _ _ => 0)
  case atStart =>
    refine ⟨rfl, rfl, ?_, ?_, ((Below.refl _ _).alloc (Nat.le_refl _) _).alloc (by simp) _⟩
    · exact (heap_alloc_ne _ _ _ (by simp)).trans (heap_new w _)
    · have := heap_new (w.alloc (.cells #[.bool false, .int .i64 0, .slice none 0 0, .slice none 0 0] 35)) (.cells #[.bool hit, .int .i64 0, .slice none 0 0, .slice none 0 0] 35)
      simpa using this
  case round =>
    obtain ⟨rfl, rfl, hA, hB, hb⟩ := hrel
    have HA := Lib.hid hA
    have HB := Lib.hid hb
    have a0 := cell_of_heap HA.out 0
    have a1 := cell_of_heap HA.out 1
    have a2 := cell_of_heap HA.out 2
    have a3 := cell_of_heap HA.out 3
    have b0 := cell_of_heap hB 0
    have b1 := cell_of_heap hB 1
    have b2 := cell_of_heap hB 2
    have b3 := cell_of_heap hB 3
    have g0 := free_of_heap HA.out 0
    have g1 := free_of_heap HA.out 1
    have g2 := free_of_heap HA.out 2
    have g3 := free_of_heap HA.out 3
    clear hA hB hb
    go_wp2
    obtain ⟨W, hW⟩ : ∃ W, W = (((wr.setCell ⟨w.heap.size, 0, none⟩ (.bool hit)).setCell ⟨w.heap.size, 1, none⟩ (.int .i64 0)).setCell ⟨w.heap.size, 2, none⟩ (.slice none 0 0)).setCell ⟨w.heap.size, 3, none⟩ (.slice none 0 0) := ⟨_, rfl⟩
    rw [← hW]
    have hh : W.heap[w.heap.size]? = some (.cells #[.bool hit, .int .i64 0, .slice none 0 0, .slice none 0 0] 35 (0, 0)) := by rw [hW, heap_setCell_at, heap_setCell_at, heap_setCell_at, heap_setCell_at, HA.out]; rfl
    have d0 : W.cell? ⟨w.heap.size, 0, none⟩ = some (.bool hit) := cell_of_heap hh 0
    have d1 : W.cell? ⟨w.heap.size, 1, none⟩ = some (.int .i64 0) := cell_of_heap hh 1
    have d2 : W.cell? ⟨w.heap.size, 2, none⟩ = some (.slice none 0 0) := cell_of_heap hh 2
    have d3 : W.cell? ⟨w.heap.size, 3, none⟩ = some (.slice none 0 0) := cell_of_heap hh 3
    refine bodyPost_ret (v := .agg #[.bool hit, .int .i64 0, .slice none 0 0, .slice none 0 0]) (by simp [results, Tryd.results46, go_sem, d0, d1, d2, d3]) rfl ?_
    have hc : Chg (fun x => x = w.heap.size) wr W := hW ▸ Chg.setCell (Chg.setCell (Chg.setCell (Chg.setCell (Chg.refl (fun x => x = w.heap.size) wr) (p := ⟨w.heap.size, _, none⟩) (.inl rfl) _) (p := ⟨w.heap.size, _, none⟩) (.inl rfl) _) (p := ⟨w.heap.size, _, none⟩) (.inl rfl) _) (p := ⟨w.heap.size, _, none⟩) (.inl rfl) _
    have k1 : Chg (fun _ => False) w W := (Chg.of_below HB.out).next hc (fun x hx h => by omega)
    exact ⟨rfl, k1.below (Nat.le_refl _) (fun _ h => h.elim)⟩

end Go.Proofs.YtffgkocokkhahaaDoor
