/-
  The order of keys: lists of values, then handles. Where a key stands in an ordered list.
-/
import Derived.Test.YtffgkocokkhahaaGreatDoorSl6
namespace Go.Proofs.YtffgkocokkhahaaGreatDoor
open Go.RowKit

theorem bytesOrd_anti (x y : List UInt8) : bytesOrd y x = - bytesOrd x y := by
  rcases bytesOrd_cases x y with ⟨e1, h1⟩ | ⟨e1, rfl⟩ | ⟨e1, h1⟩
  · rw [e1]
    rcases bytesOrd_cases y x with ⟨_, h2⟩ | ⟨_, h2⟩ | ⟨e2, _⟩
    · have := bytesLess_trans h1 h2
      rw [bytesLess_irrefl] at this
      cases this
    · subst h2
      rw [bytesLess_irrefl] at h1
      cases h1
    · exact e2
  · rw [e1]
    rfl
  · rw [e1]
    unfold bytesOrd three
    rw [h1]
    rfl

theorem lex_anti (a b : SV) : b.lex a = - a.lex b := by
  unfold SV.lex
  rw [bytesOrd_anti b.text a.text]
  repeat' split
  all_goals omega

def lexV : List VV → List VV → Int
  | x :: l, y :: m => if x.sv.lex y.sv = 0 then lexV l m else x.sv.lex y.sv
  | _, _ => 0

def PlainL (l : List VV) : Prop := ∀ x ∈ l, x.sv.plain

theorem ConcL.plain {l : List VV} (h : ConcL l) : PlainL l := by
  intro x hx
  obtain ⟨j, hj, rfl⟩ := List.getElem_of_mem hx
  exact (conc_sv (h j _ (List.getElem?_eq_getElem hj)).1).2

theorem collV_lex : ∀ (l m : List VV), PlainL l → PlainL m → collV l m = lexV l m
  | [], _, _, _ => rfl
  | _ :: _, [], _, _ => rfl
  | x :: l, y :: m, h1, h2 => by
    unfold collV lexV
    rw [coll_lex (h1 x (by simp)) (h2 y (by simp)), collV_lex l m (fun z hz => h1 z (by simp [hz])) (fun z hz => h2 z (by simp [hz]))]

theorem lexV_anti : ∀ (l m : List VV), lexV m l = - lexV l m
  | [], [] => rfl
  | [], _ :: _ => rfl
  | _ :: _, [] => rfl
  | x :: l, y :: m => by
    unfold lexV
    rw [lex_anti x.sv y.sv, lexV_anti l m]
    split <;> split <;> omega

theorem lexV_chain : ∀ (a b c : List VV), a.length = b.length → b.length = c.length →
    (lexV a b ≤ 0 → lexV b c ≤ 0 → lexV a c ≤ 0 ∧ (lexV a c = 0 → lexV a b = 0 ∧ lexV b c = 0))
  | [], [], [], _, _ => by simp [lexV]
  | [], [], _ :: _, _, h => by simp at h
  | [], _ :: _, _, h, _ => by simp at h
  | _ :: _, [], _, h, _ => by simp at h
  | _ :: _, _ :: _, [], _, h => by simp at h
  | x :: a, y :: b, z :: c, h1, h2 => by
    have ih := lexV_chain a b c (by simpa using h1) (by simpa using h2)
    have hc := (lex_chain x.sv y.sv z.sv).1
    have hd := (lex_chain x.sv y.sv z.sv).2
    unfold lexV
    generalize x.sv.lex y.sv = p at *
    generalize y.sv.lex z.sv = q at *
    generalize x.sv.lex z.sv = r at *
    generalize lexV a b = u at *
    generalize lexV b c = v at *
    generalize lexV a c = t at *
    intro g1 g2
    split at g1 <;> split at g2 <;> split <;> omega

/-- A key: its values and its handle. -/
structure Key where
  l : List VV
  h : Int

def Key.c (a b : Key) : Int := if lexV a.l b.l = 0 then a.h - b.h else lexV a.l b.l

theorem Key.anti (a b : Key) : b.c a = - a.c b := by
  unfold Key.c
  rw [lexV_anti a.l b.l]
  split <;> split <;> omega

theorem Key.trans {a b c : Key} (h1 : a.l.length = b.l.length) (h2 : b.l.length = c.l.length) (h3 : a.c b < 0) (h4 : b.c c < 0) : a.c c < 0 := by
  have h := lexV_chain a.l b.l c.l h1 h2
  unfold Key.c at *
  generalize lexV a.l b.l = p at *
  generalize lexV b.l c.l = q at *
  generalize lexV a.l c.l = r at *
  split at h3 <;> split at h4 <;> split <;> omega

theorem Key.trans_eq {a b c : Key} (h1 : a.l.length = b.l.length) (h2 : b.l.length = c.l.length) (h3 : a.c b = 0) (h4 : b.c c < 0) : a.c c < 0 := by
  have h := lexV_chain a.l b.l c.l h1 h2
  have g := lexV_chain c.l b.l a.l h2.symm h1.symm
  rw [lexV_anti b.l c.l, lexV_anti a.l b.l, lexV_anti a.l c.l] at g
  unfold Key.c at *
  generalize lexV a.l b.l = p at *
  generalize lexV b.l c.l = q at *
  generalize lexV a.l c.l = r at *
  split at h3 <;> split at h4 <;> split <;> omega

/-- Where something stands: s tells how it compares with each of n. -/
structure Pos (s : Nat → Int) (n i : Nat) (ok : Bool) : Prop where
  le : i ≤ n
  ahead : ∀ j, j < i → 0 < s j
  behind : ∀ j, i < j → j < n → s j < 0
  hit : ok = true → i < n ∧ s i = 0
  miss : ok = false → i < n → s i < 0

theorem Pos.unique {s : Nat → Int} {n i j : Nat} {a b : Bool} (h : Pos s n i a) (g : Pos s n j b) : i = j ∧ a = b := by
  have hij : i = j := by
    rcases Nat.lt_trichotomy i j with hlt | heq | hgt
    · exfalso
      have h1 := g.ahead i hlt
      have h2 : i < n := Nat.lt_of_lt_of_le hlt g.le
      cases a with
      | true => have := (h.hit rfl).2; omega
      | false => have := h.miss rfl h2; omega
    · exact heq
    · exfalso
      have h1 := h.ahead j hgt
      have h2 : j < n := Nat.lt_of_lt_of_le hgt h.le
      cases b with
      | true => have := (g.hit rfl).2; omega
      | false => have := g.miss rfl h2; omega
  subst hij
  refine ⟨rfl, ?_⟩
  cases a with
  | true =>
    cases b with
    | true => rfl
    | false => have h1 := h.hit rfl; have := g.miss rfl h1.1; omega
  | false =>
    cases b with
    | true => have h1 := g.hit rfl; have := h.miss rfl h1.1; omega
    | false => rfl

/-- In a list whose signs go down there is a place. -/
theorem pos_exists (s : Nat → Int) : ∀ (n : Nat), (∀ i j, i < j → j < n → s i ≤ 0 → s j < 0) → ∃ i ok, Pos s n i ok
  | 0, _ => ⟨0, false, by omega, fun j h => by omega, fun j h h' => by omega, fun h => (by cases h), fun _ h => by omega⟩
  | n + 1, hs => by
    obtain ⟨i, ok, hp⟩ := pos_exists s n (fun i j h1 h2 => hs i j h1 (by omega))
    rcases Nat.lt_or_ge i n with hi | hi
    · refine ⟨i, ok, by omega, hp.ahead, fun j h1 h2 => ?_, fun h => ⟨by omega, (hp.hit h).2⟩, fun h _ => hp.miss h hi⟩
      rcases Nat.lt_or_ge j n with h3 | h3
      · exact hp.behind j h1 h3
      · refine hs i j h1 h2 ?_
        cases ok with
        | true => have := (hp.hit rfl).2; omega
        | false => have := hp.miss rfl hi; omega
    · obtain rfl : i = n := Nat.le_antisymm hp.le hi
      rcases Int.lt_trichotomy (s i) 0 with h | h | h
      · exact ⟨i, false, by omega, hp.ahead, fun j h1 h2 => by omega, fun h => (by cases h), fun _ _ => h⟩
      · exact ⟨i, true, by omega, hp.ahead, fun j h1 h2 => by omega, fun _ => ⟨by omega, h⟩, fun h => by cases h⟩
      · refine ⟨i + 1, false, by omega, fun j hj => ?_, fun j h1 h2 => by omega, fun h => (by cases h), fun _ h => by omega⟩
        rcases Nat.lt_or_ge j i with h3 | h3
        · exact hp.ahead j h3
        · obtain rfl : j = i := by omega
          exact h

end Go.Proofs.YtffgkocokkhahaaGreatDoor
