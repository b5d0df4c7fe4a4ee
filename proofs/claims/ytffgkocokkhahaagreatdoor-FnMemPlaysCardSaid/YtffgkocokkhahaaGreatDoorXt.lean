/-
  The index's tree in memory: a chain of pages, under a root where there are several.
-/
import Derived.Test.YtffgkocokkhahaaGreatDoorXw
import Derived.Test.YtffgkocokkhahaaGreatDoorXf
namespace Go.Proofs.YtffgkocokkhahaaGreatDoor
open Go.RowKit

abbrev Pg := Nat × List XE
def ptr (b : Nat) : Value := .pointer (some ⟨b, 0, none⟩)
def hdp : List Pg → Value → Value
  | [], nx => nx
  | p :: _, _ => ptr p.1
def lastp : Value → List Pg → Value
  | pv, [] => pv
  | _, p :: r => lastp (ptr p.1) r
def Chain (w : World) : Value → List Pg → Value → Prop
  | _, [], _ => True
  | pv, p :: r, nx => (∃ rest, PageAt w p.1 p.2 rest (hdp r nx) pv) ∧ Chain w (ptr p.1) r nx

theorem hdp_append (A B : List Pg) (nx : Value) : hdp (A ++ B) nx = hdp A (hdp B nx) := by cases A <;> rfl
theorem lastp_append (A B : List Pg) (pv : Value) : lastp pv (A ++ B) = lastp (lastp pv A) B := by
  induction A generalizing pv with
  | nil => rfl
  | cons p A ih => exact ih _
theorem chain_append {w : World} (A B : List Pg) (pv nx : Value) : Chain w pv (A ++ B) nx ↔ Chain w pv A (hdp B nx) ∧ Chain w (lastp pv A) B nx := by
  induction A generalizing pv with
  | nil => simp [Chain, lastp]
  | cons p A ih =>
    simp only [List.cons_append, Chain, lastp, ih, hdp_append]
    exact ⟨fun ⟨h1, h2, h3⟩ => ⟨⟨h1, h2⟩, h3⟩, fun ⟨⟨h1, h2⟩, h3⟩ => ⟨h1, h2, h3⟩⟩
theorem chain_chg {S : Nat → Prop} {w w' : World} : ∀ {A : List Pg} {pv nx : Value}, Chain w pv A nx → Chg S w w' → (∀ p ∈ A, ¬ S p.1) → Chain w' pv A nx
  | [], _, _, _, _, _ => trivial
  | p :: r, _, _, ⟨⟨rest, h1⟩, h2⟩, hc, hn => ⟨⟨rest, h1.chg hc (hn p (by simp))⟩, chain_chg h2 hc (fun q hq => hn q (by simp [hq]))⟩
theorem chain_lt {w : World} : ∀ {A : List Pg} {pv nx : Value}, Chain w pv A nx → ∀ p ∈ A, p.1 < w.heap.size
  | q :: r, _, _, ⟨⟨_, h1⟩, h2⟩, p, hp => by
    rcases List.mem_cons.1 hp with rfl | hp
    · exact h1.lt
    · exact chain_lt h2 p hp
theorem chain_page {w : World} : ∀ {A : List Pg} {pv nx : Value}, Chain w pv A nx → ∀ p ∈ A, ∃ rest nx' pv', PageAt w p.1 p.2 rest nx' pv'
  | q :: r, _, _, ⟨⟨rest, h1⟩, h2⟩, p, hp => by
    rcases List.mem_cons.1 hp with rfl | hp
    · exact ⟨_, _, _, h1⟩
    · exact chain_page h2 p hp

def ents (P : List Pg) : List XE := P.flatMap (·.2)
theorem ents_append (A B : List Pg) : ents (A ++ B) = ents A ++ ents B := by simp [ents]
theorem ents_cons (p : Pg) (B : List Pg) : ents (p :: B) = p.2 ++ ents B := by simp [ents]

def Blocks (P : List Pg) : List Nat := P.map (·.1)

/-- Two kinds of blocks are two blocks. -/
theorem tag_ne {w : World} {a b : Nat} {c d : Array Value} {t u : TypeId} {f g : Nat × Nat} (h1 : w.heap[a]? = some (.cells c t f)) (h2 : w.heap[b]? = some (.cells d u g)) (hne : t ≠ u) : ¬ a = b := by
  rintro rfl
  rw [h1] at h2
  injection h2 with h2
  injection h2 with _ h2
  exact hne h2

/-- A tree with a root. -/
structure Rooted (w : World) (t x : Nat) (P : List Pg) (c : Int) : Prop where
  tree : ∃ ver, TreeW w t c (hdp P (.pointer none)) (lastp (.pointer none) P) (.iface 169 (ptr x)) ver
  root : ∃ b0 bs xr, Blocks P = b0 :: bs ∧ RootAt w x b0 bs xr
  chain : Chain w (.pointer none) P (.pointer none)
  sizes : ∀ p ∈ P, 64 ≤ p.2.length ∧ p.2.length ≤ 128
  nodup : (Blocks P).Nodup
  two : 2 ≤ P.length

/-- A tree of one page. -/
structure Lone (w : World) (t b : Nat) (es : List XE) (c : Int) : Prop where
  tree : ∃ ver, TreeW w t c (ptr b) (ptr b) (.iface 149 (ptr b)) ver
  page : ∃ rest, PageAt w b es rest (.pointer none) (.pointer none)
  size : 1 ≤ es.length ∧ es.length ≤ 128

/-- A tree and the blocks that it has. -/
inductive TreeAt (w : World) (t : Nat) : List XE → (Nat → Prop) → Prop where
  | none (h : ∃ ver, TreeW w t 0 (.pointer none) (.pointer none) .nilIface ver) : TreeAt w t [] (fun b => b = t)
  | lone {b : Nat} {es : List XE} (h : Lone w t b es es.length) : TreeAt w t es (fun k => k = t ∨ k = b)
  | many {x : Nat} {P : List Pg} (h : Rooted w t x P (ents P).length) : TreeAt w t (ents P) (fun k => (k = t ∨ k = x) ∨ k ∈ Blocks P)

theorem Rooted.pages {w : World} {t x : Nat} {P : List Pg} {c : Int} (h : Rooted w t x P c) : P.length * 64 ≤ (ents P).length := by
  have hs := h.sizes
  clear h
  induction P with
  | nil => simp
  | cons p P ih =>
    rw [ents_cons, List.length_append, List.length_cons, Nat.succ_mul]
    have h1 := hs p (by simp)
    have h2 := ih (fun q hq => hs q (by simp [hq]))
    omega

theorem Lone.ne {w : World} {t b : Nat} {es : List XE} {c : Int} (h : Lone w t b es c) : ¬ t = b := by
  obtain ⟨_, h1⟩ := h.tree
  obtain ⟨_, h2⟩ := h.page
  exact tag_ne h1 h2.heap (by decide)

end Go.Proofs.YtffgkocokkhahaaGreatDoor
