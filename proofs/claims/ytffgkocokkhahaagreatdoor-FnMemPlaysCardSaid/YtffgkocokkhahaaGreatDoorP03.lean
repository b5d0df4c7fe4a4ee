/-
  A memory store: its states (plain), and how they lie in memory. || What a deed to a store leaves, put together; (*mem).BeginTransaction. || (*mem).Create, no handle free. || (*mem).Create, of a handle that is free. || (*mem).Update. || (*mem).Delete. || (*mem).BeginTransaction, (*mem).Commit. || (*mem).Commit of a level. || (*mem).Commit of a level in a level: what is left.
-/
import Derived.Test.YtffgkocokkhahaaGreatDoorMb
import Derived.Test.YtffgkocokkhahaaGreatDoorP01
import Derived.Test.YtffgkocokkhahaaGreatDoorP02

/- A memory store: its states (plain), and how they lie in memory. -/
namespace Go.Proofs.YtffgkocokkhahaaGreatDoor
open Go.RowKit

/-! ### Plain: states, and what takes a step back -/

structure MSt (R : Type) where
  data : List R
  rcy : List Nat

inductive Un (R : Type) where
  | new (h : Nat)
  | recy (h : Nat)
  | upd (h : Nat) (o : R)
  | del (h : Nat) (o : R)

section
variable {R : Type} (z : R)

def Un.tag : Un R → Nat
  | .new _ => 0
  | .recy _ => 1
  | .upd _ _ => 2
  | .del _ _ => 3
def Un.h : Un R → Nat
  | .new h => h
  | .recy h => h
  | .upd h _ => h
  | .del h _ => h
def Un.row : Un R → R
  | .new _ => z
  | .recy _ => z
  | .upd _ o => o
  | .del _ o => o

def undo1 : Un R → MSt R → MSt R
  | .new _, s => ⟨s.data.dropLast, s.rcy⟩
  | .recy h, s => ⟨s.data.set h z, s.rcy ++ [h]⟩
  | .upd h o, s => ⟨s.data.set h o, s.rcy⟩
  | .del h o, s => ⟨s.data.set h o, s.rcy.dropLast⟩

def undoOk : Un R → MSt R → Prop
  | .new _, s => 0 < s.data.length
  | .recy h, s => h < s.data.length
  | .upd h _, s => h < s.data.length
  | .del h _, s => h < s.data.length ∧ 0 < s.rcy.length

/-- What was done is taken back, the newest first. -/
def undoAll : List (Un R) → MSt R → MSt R
  | [], s => s
  | u :: us, s => undoAll us (undo1 z u s)
def okAll : List (Un R) → MSt R → Prop
  | [], _ => True
  | u :: us, s => undoOk u s ∧ okAll us (undo1 z u s)

theorem undoAll_append (us vs : List (Un R)) (s : MSt R) : undoAll z (us ++ vs) s = undoAll z vs (undoAll z us s) := by
  induction us generalizing s with
  | nil => rfl
  | cons u us ih => exact ih _
theorem okAll_append (us vs : List (Un R)) (s : MSt R) : okAll z (us ++ vs) s ↔ okAll z us s ∧ okAll z vs (undoAll z us s) := by
  induction us generalizing s with
  | nil => simp [okAll, undoAll]
  | cons u us ih => simp only [List.cons_append, okAll, undoAll, ih, and_assoc]

/-- A state's handles that are free. -/
structure Good (s : MSt R) : Prop where
  two : 2 ≤ s.data.length
  free : ∀ h ∈ s.rcy, 2 ≤ h ∧ s.data[h]? = some z
  nodup : s.rcy.Nodup

/-- What the levels of transactions go back to. -/
def Back : MSt R → List (List (Un R)) → List (MSt R) → Prop
  | _, [], ss => ss = []
  | s, us :: ls, ss => ∃ s' ss', ss = s' :: ss' ∧ okAll z us s ∧ undoAll z us s = s' ∧ Back s' ls ss'

theorem Back.push {s s' : MSt R} {us : List (Un R)} {ls : List (List (Un R))} {ss : List (MSt R)} (h : Back z s (us :: ls) ss) (u : Un R) (hok : undoOk u s') (hu : undo1 z u s' = s) : Back z s' ((u :: us) :: ls) ss := by
  obtain ⟨t, ts, e, h1, h2, h3⟩ := h
  exact ⟨t, ts, e, ⟨hok, by rw [hu]; exact h1⟩, by show undoAll z us (undo1 z u s') = t; rw [hu]; exact h2, h3⟩
theorem Back.begin {s : MSt R} {ls : List (List (Un R))} {ss : List (MSt R)} (h : Back z s ls ss) : Back z s ([] :: ls) (s :: ss) := ⟨s, ss, rfl, trivial, rfl, h⟩
theorem Back.commit {s : MSt R} {us vs : List (Un R)} {ls : List (List (Un R))} {ss : List (MSt R)} (h : Back z s (us :: vs :: ls) ss) : Back z s ((us ++ vs) :: ls) ss.tail := by
  obtain ⟨t, ts, rfl, h1, rfl, t2, ts2, rfl, h4, rfl, h6⟩ := h
  exact ⟨_, ts2, rfl, (okAll_append z _ _ _).2 ⟨h1, h4⟩, undoAll_append z _ _ _, h6⟩
end

/-! ### In memory -/

structure RV where
  l : List VV
  A : Option Addr
  c : Nat
def RV.val (r : RV) : Value := .slice r.A r.l.length r.c
def RV.nil : RV := ⟨[], none, 0⟩
structure RV.ok (D : Nat → Prop) (w : World) (r : RV) : Prop where
  ins : ∃ vs, InsZ D w r.l r.A vs
  conc : ConcL r.l
  fit : FitL r.l
  len : r.l.length ≤ 1000

theorem RV.ok_nil (D : Nat → Prop) (w : World) : RV.nil.ok D w := ⟨⟨_, InsZ.nil D w⟩, fun j x h => (by simp [RV.nil] at h), fun j x h => (by simp [RV.nil] at h), by simp [RV.nil]⟩
theorem RV.ok.chg {D S : Nat → Prop} {w w' : World} {r : RV} (h : r.ok D w) (hc : Chg S w w') (hn : ∀ k, D k → ¬ S k) : r.ok D w' := by
  obtain ⟨⟨vs, h1⟩, h2, h3, h4⟩ := h
  exact ⟨⟨vs, h1.chg hc hn⟩, h2, h3, h4⟩
theorem RV.ok.mono {D E : Nat → Prop} {w : World} {r : RV} (h : r.ok D w) (hn : ∀ k, D k → E k) : r.ok E w := by
  obtain ⟨⟨vs, h1⟩, h2, h3, h4⟩ := h
  exact ⟨⟨vs, h1.mono hn⟩, h2, h3, h4⟩

def Un.cells (u : Un RV) : List Value := [.int .i64 (u.tag : Int), .int .i64 (u.h : Int), (u.row RV.nil).val]
theorem Un.three (u : Un RV) : u.cells.length = 3 := rfl

/-- The levels of a store's transactions. -/
inductive Lev (D : Nat → Prop) (w : World) : Value → List (List (Un RV)) → (Nat → Prop) → Prop
  | nil : Lev D w (.pointer none) [] (fun _ => False)
  | cons {r : Nat} {L p : Value} {us : List (Un RV)} {ls : List (List (Un RV))} {S : Nat → Prop} (hr : w.heap[r]? = some (.cells #[L, p, .int .i64 0] 132 (0, 0)))
      (ho : w.ownsRow 0 163 3 L us.length (flat Un.cells us.reverse)) (hu : ∀ u ∈ us, (u.row RV.nil).ok D w) (h : Lev D w p ls S) (h1 : ¬ S r) (h2 : ∀ b, L.ownBlock = some b → ¬ S b) :
      Lev D w (ptr r) (us :: ls) (fun k => k = r ∨ L.ownBlock = some k ∨ S k)

theorem Lev.chg {D S T : Nat → Prop} {w w' : World} {p : Value} {ls : List (List (Un RV))} (h : Lev D w p ls S) (hc : Chg T w w') (hS : ∀ k, S k → ¬ T k) (hD : ∀ k, D k → ¬ T k) : Lev D w' p ls S := by
  induction h with
  | nil => exact .nil
  | cons hr ho hu h h1 h2 ih => exact .cons (heap_chg hr hc (hS _ (.inl rfl))) (own_chg ho hc (fun b hb => hS b (.inr (.inl hb)))) (fun u hm => (hu u hm).chg hc hD) (ih (fun k hk => hS k (.inr (.inr hk)))) h1 h2
theorem Lev.mono {D E S : Nat → Prop} {w : World} {p : Value} {ls : List (List (Un RV))} (h : Lev D w p ls S) (hn : ∀ k, D k → E k) : Lev E w p ls S := by
  induction h with
  | nil => exact .nil
  | cons hr ho hu h h1 h2 ih => exact .cons hr ho (fun u hm => (hu u hm).mono hn) ih h1 h2
theorem Lev.lt {D S : Nat → Prop} {w : World} {p : Value} {ls : List (List (Un RV))} (h : Lev D w p ls S) : ∀ k, S k → k < w.heap.size := by
  induction h with
  | nil => exact fun k h => h.elim
  | cons hr ho hu h h1 h2 ih =>
    rintro k (rfl | hk | hk)
    · exact lt_of_heap hr
    · exact own_lt ho hk
    · exact ih k hk
theorem Lev.ne {D S : Nat → Prop} {w : World} {p : Value} {ls : List (List (Un RV))} (h : Lev D w p ls S) {b : Nat} {cs : Array Value} {T : TypeId} {fr : Nat × Nat} (hb : w.heap[b]? = some (.cells cs T fr)) (t1 : T ≠ 132) (t2 : T ≠ 163) : ¬ S b := by
  induction h with
  | nil => exact id
  | cons hr ho hu h h1 h2 ih =>
    rintro (rfl | hk | hk)
    · rw [hb] at hr
      injection hr with hr
      injection hr with _ ht
      exact t1 ht
    · exact own_ne ho hb (fun e => t2 e.symm) hk
    · exact ih hk

/-- The store's own block. -/
def MemL (w : World) (m : Nat) (d rc : Value) (tnl : Nat) (roll : Value) : Prop :=
  w.heap[m]? = some (.cells #[d, .int .i64 0, rc, .int .i64 (tnl : Int), roll, .int .i32 0, .int .u32 0, .int .u32 0, .int .u32 0, .int .i32 0, .int .i32 0] 125 (0, 0))

def natV (h : Nat) : Value := .int .i64 (h : Int)

/-- A store in memory: M, what may be turned; D, its rows. -/
structure MemAt (D : Nat → Prop) (w : World) (m : Nat) (s : MSt RV) (ls : List (List (Un RV))) (dv rv p : Value) (S : Nat → Prop) : Prop where
  mem : MemL w m dv rv ls.length p
  data : w.ownsRow 0 87 1 dv s.data.length (s.data.map RV.val)
  rcy : w.ownsRow 0 3 1 rv s.rcy.length (s.rcy.map natV)
  rows : ∀ r ∈ s.data, r.ok D w
  lev : Lev D w p ls S

def Mset (m : Nat) (dv rv : Value) (S : Nat → Prop) : Nat → Prop := fun k => k = m ∨ dv.ownBlock = some k ∨ rv.ownBlock = some k ∨ S k

theorem MemAt.chg {D S T : Nat → Prop} {w w' : World} {m : Nat} {s : MSt RV} {ls : List (List (Un RV))} {dv rv p : Value} (h : MemAt D w m s ls dv rv p S) (hc : Chg T w w') (hM : ∀ k, Mset m dv rv S k → ¬ T k) (hD : ∀ k, D k → ¬ T k) : MemAt D w' m s ls dv rv p S :=
  ⟨heap_chg h.mem hc (hM _ (.inl rfl)), own_chg h.data hc (fun b hb => hM b (.inr (.inl hb))), own_chg h.rcy hc (fun b hb => hM b (.inr (.inr (.inl hb)))), fun r hr => (h.rows r hr).chg hc hD, h.lev.chg hc (fun k hk => hM k (.inr (.inr (.inr hk)))) hD⟩
theorem MemAt.lt {D S : Nat → Prop} {w : World} {m : Nat} {s : MSt RV} {ls : List (List (Un RV))} {dv rv p : Value} (h : MemAt D w m s ls dv rv p S) : ∀ k, Mset m dv rv S k → k < w.heap.size := by
  rintro k (rfl | hk | hk | hk)
  · exact lt_of_heap h.mem
  · exact own_lt h.data hk
  · exact own_lt h.rcy hk
  · exact h.lev.lt k hk

/-- A store, with the sets closed. -/
structure MemX (m : Nat) (s : MSt RV) (ls : List (List (Un RV))) (M D : Nat → Prop) (w : World) : Prop where
  ex : ∃ dv rv p S, MemAt D w m s ls dv rv p S ∧ (∀ k, M k ↔ Mset m dv rv S k)
  dat : ∀ k, D k → k < w.heap.size ∧ ¬ M k

theorem MemX.lt {m : Nat} {s : MSt RV} {ls : List (List (Un RV))} {M D : Nat → Prop} {w : World} (h : MemX m s ls M D w) {k : Nat} (hk : M k) : k < w.heap.size := by
  obtain ⟨dv, rv, p, S, h1, h2⟩ := h.ex
  exact h1.lt k ((h2 k).1 hk)
theorem MemX.chg {m : Nat} {s : MSt RV} {ls : List (List (Un RV))} {M D T : Nat → Prop} {w w' : World} (h : MemX m s ls M D w) (hc : Chg T w w') (hM : ∀ k, M k → ¬ T k) (hD : ∀ k, D k → ¬ T k) : MemX m s ls M D w' := by
  obtain ⟨dv, rv, p, S, h1, h2⟩ := h.ex
  exact ⟨⟨dv, rv, p, S, h1.chg hc (fun k hk => hM k ((h2 k).2 hk)) hD, h2⟩, fun k hk => ⟨Nat.lt_of_lt_of_le (h.dat k hk).1 hc.size, (h.dat k hk).2⟩⟩
theorem MemX.below {m : Nat} {s : MSt RV} {ls : List (List (Un RV))} {M D : Nat → Prop} {w w' : World} (h : MemX m s ls M D w) (hb : Below w.heap.size w w') : MemX m s ls M D w' := h.chg (Chg.of_below (S := fun _ => False) hb) (fun _ _ h => h) (fun _ _ h => h)
theorem MemX.more {m : Nat} {s : MSt RV} {ls : List (List (Un RV))} {M D E : Nat → Prop} {w : World} (h : MemX m s ls M D w) (hn : ∀ k, D k → E k) (hd : ∀ k, E k → k < w.heap.size ∧ ¬ M k) : MemX m s ls M E w := by
  obtain ⟨dv, rv, p, S, ⟨a1, a2, a3, a4, a5⟩, h2⟩ := h.ex
  exact ⟨⟨dv, rv, p, S, ⟨a1, a2, a3, fun r hr => (a4 r hr).mono hn, a5.mono hn⟩, h2⟩, hd⟩

/-- What a deed to a store leaves. -/
def StepP (m : Nat) (s : MSt RV) (ls : List (List (Un RV))) (M D : Nat → Prop) (w w' : World) : Prop :=
  ∃ M' D', MemX m s ls M' D' w' ∧ Chg M w w' ∧ (∀ k, D k → D' k) ∧ (∀ k, M' k → M k ∨ w.heap.size ≤ k) ∧ ∀ k, D' k → D k ∨ w.heap.size ≤ k

end Go.Proofs.YtffgkocokkhahaaGreatDoor

/- What a deed to a store leaves, put together; (*mem).BeginTransaction. -/
namespace Go.Proofs.YtffgkocokkhahaaGreatDoor
open Go.RowKit

theorem heap_diff {w : World} {a b : Nat} {c d : Array Value} {t u : TypeId} {f g : Nat × Nat} (h1 : w.heap[a]? = some (.cells c t f)) (h2 : w.heap[b]? = some (.cells d u g)) (hne : t ≠ u) : a ≠ b := by
  rintro rfl
  rw [h1] at h2
  injection h2 with h2
  injection h2 with _ ht
  exact hne ht

theorem own_heap {w : World} {base : Nat} {e : TypeId} {size n : Nat} {v : Value} {xs : List Value} (h : w.ownsRow base e size v n xs) {b : Nat} (hb : v.ownBlock = some b) : ∃ cur, w.heap[b]? = some (.cells cur e (0, 0)) := by
  rcases h.2 with ⟨h2, _⟩ | ⟨g, cap, cur, e1, e2, e3, e4⟩
  · rw [h2] at hb; cases hb
  · rw [e1] at hb
    have : g = b := by simpa [Value.ownBlock] using hb
    subst this
    exact ⟨cur, e3⟩
theorem own_apart {w : World} {b1 b2 : Nat} {e1 e2 : TypeId} {s1 s2 n1 n2 : Nat} {u v : Value} {xs ys : List Value} (h1 : w.ownsRow b1 e1 s1 u n1 xs) (h2 : w.ownsRow b2 e2 s2 v n2 ys) (hne : e1 ≠ e2) {b : Nat} (hb : u.ownBlock = some b) : v.ownBlock ≠ some b := by
  obtain ⟨cur, h⟩ := own_heap h1 hb
  exact own_ne h2 h (fun e => hne e.symm)

variable {D M S : Nat → Prop} {w W : World} {m r : Nat} {s s' : MSt RV} {us us' : List (Un RV)} {ls : List (List (Un RV))} {dv rv p L : Value}

/-- The blocks of a store, but for those of its lower levels. -/
def Top (m r : Nat) (dv rv L : Value) : Nat → Prop := fun k => k = m ∨ k = r ∨ dv.ownBlock = some k ∨ rv.ownBlock = some k ∨ L.ownBlock = some k

/-- A store in a transaction: its top level open. -/
structure MemT (D : Nat → Prop) (w : World) (m r : Nat) (s : MSt RV) (us : List (Un RV)) (ls : List (List (Un RV))) (dv rv p L : Value) (S : Nat → Prop) : Prop where
  mem : MemL w m dv rv (ls.length + 1) (ptr r)
  data : w.ownsRow 0 87 1 dv s.data.length (s.data.map RV.val)
  rcy : w.ownsRow 0 3 1 rv s.rcy.length (s.rcy.map natV)
  rows : ∀ r ∈ s.data, r.ok D w
  roll : w.heap[r]? = some (.cells #[L, p, .int .i64 0] 132 (0, 0))
  list : w.ownsRow 0 163 3 L us.length (flat Un.cells us.reverse)
  olds : ∀ u ∈ us, (u.row RV.nil).ok D w
  lev : Lev D w p ls S
  apr : ¬ S r
  apl : ∀ b, L.ownBlock = some b → ¬ S b

theorem MemAt.top (h : MemAt D w m s (us :: ls) dv rv p S) : ∃ r L p' S', p = ptr r ∧ MemT D w m r s us ls dv rv p' L S' ∧ ∀ k, S k ↔ (k = r ∨ L.ownBlock = some k ∨ S' k) := by
  obtain ⟨h1, h2, h3, h4, h5⟩ := h
  cases h5 with
  | cons hr ho hu h a b => exact ⟨_, _, _, _, rfl, ⟨h1, h2, h3, h4, hr, ho, hu, h, a, b⟩, fun k => Iff.rfl⟩

theorem MemT.at_ (h : MemT D w m r s us ls dv rv p L S) : MemAt D w m s (us :: ls) dv rv (ptr r) (fun k => k = r ∨ L.ownBlock = some k ∨ S k) :=
  ⟨h.mem, h.data, h.rcy, h.rows, .cons h.roll h.list h.olds h.lev h.apr h.apl⟩

structure TopApart (m r : Nat) (dv rv L : Value) (S : Nat → Prop) : Prop where
  mr : m ≠ r
  dm : dv.ownBlock ≠ some m
  dr : dv.ownBlock ≠ some r
  rm : rv.ownBlock ≠ some m
  rr : rv.ownBlock ≠ some r
  lm : L.ownBlock ≠ some m
  lr : L.ownBlock ≠ some r
  dc : ∀ b, dv.ownBlock = some b → rv.ownBlock ≠ some b
  dl : ∀ b, dv.ownBlock = some b → L.ownBlock ≠ some b
  cl : ∀ b, rv.ownBlock = some b → L.ownBlock ≠ some b
  sm : ¬ S m
  sr : ¬ S r
  sd : ∀ b, dv.ownBlock = some b → ¬ S b
  sc : ∀ b, rv.ownBlock = some b → ¬ S b
  sl : ∀ b, L.ownBlock = some b → ¬ S b

theorem MemT.apart (h : MemT D w m r s us ls dv rv p L S) : TopApart m r dv rv L S where
  mr := heap_diff h.mem h.roll (by decide)
  dm := own_ne h.data h.mem (by decide)
  dr := own_ne h.data h.roll (by decide)
  rm := own_ne h.rcy h.mem (by decide)
  rr := own_ne h.rcy h.roll (by decide)
  lm := own_ne h.list h.mem (by decide)
  lr := own_ne h.list h.roll (by decide)
  dc := fun b hb => own_apart h.data h.rcy (by decide) hb
  dl := fun b hb => own_apart h.data h.list (by decide) hb
  cl := fun b hb => own_apart h.rcy h.list (by decide) hb
  sm := h.lev.ne h.mem (by decide) (by decide)
  sr := h.apr
  sd := fun b hb => by obtain ⟨cur, hh⟩ := own_heap h.data hb; exact h.lev.ne hh (by decide) (by decide)
  sc := fun b hb => by obtain ⟨cur, hh⟩ := own_heap h.rcy hb; exact h.lev.ne hh (by decide) (by decide)
  sl := h.apl

/-- The data among D are no part of the store itself. -/
def OffTop (D : Nat → Prop) (m r : Nat) (dv rv L : Value) : Prop := ∀ k, D k → ¬ Top m r dv rv L k

theorem MemX.top (h : MemX m s (us :: ls) M D w) : ∃ r dv rv p L S, MemT D w m r s us ls dv rv p L S ∧ (∀ k, M k ↔ (Top m r dv rv L k ∨ S k)) ∧ OffTop D m r dv rv L ∧ (∀ k, D k → k < w.heap.size ∧ ¬ S k) := by
  obtain ⟨dv, rv, p, S0, h1, h2⟩ := h.ex
  obtain ⟨r, L, p', S, rfl, hT, hS⟩ := h1.top
  have hM : ∀ k, M k ↔ (Top m r dv rv L k ∨ S k) := fun k => by
    rw [h2]
    unfold Mset Top
    rw [hS]
    constructor
    · rintro (h | h | h | h | h | h) <;> simp [h]
    · rintro ((h | h | h | h | h) | h) <;> simp [h]
  exact ⟨r, dv, rv, p', L, S, hT, hM, fun k hk ht => (h.dat k hk).2 ((hM k).2 (.inl ht)), fun k hk => ⟨(h.dat k hk).1, fun hs => (h.dat k hk).2 ((hM k).2 (.inr hs))⟩⟩

/-- What is left behind a deed that turned the top of a store. -/
theorem top_fin {D' : Nat → Prop} {dv' rv' L' : Value} (h : MemT D w m r s us ls dv rv p L S) (hM : ∀ k, M k ↔ (Top m r dv rv L k ∨ S k)) (hoff : OffTop D m r dv rv L) (hD : ∀ k, D k → k < w.heap.size ∧ ¬ S k)
    (hc : Chg (Top m r dv rv L) w W) (mem' : MemL W m dv' rv' (ls.length + 1) (ptr r)) (data' : W.ownsRow 0 87 1 dv' s'.data.length (s'.data.map RV.val)) (rcy' : W.ownsRow 0 3 1 rv' s'.rcy.length (s'.rcy.map natV))
    (rows' : ∀ r ∈ s'.data, r.ok D' W) (roll' : W.heap[r]? = some (.cells #[L', p, .int .i64 0] 132 (0, 0))) (list' : W.ownsRow 0 163 3 L' us'.length (flat Un.cells us'.reverse)) (olds' : ∀ u ∈ us', (u.row RV.nil).ok D' W)
    (nd : ∀ b, dv'.ownBlock = some b → dv.ownBlock = some b ∨ w.heap.size ≤ b) (nr : ∀ b, rv'.ownBlock = some b → rv.ownBlock = some b ∨ w.heap.size ≤ b) (nl : ∀ b, L'.ownBlock = some b → L.ownBlock = some b ∨ w.heap.size ≤ b)
    (hDD : ∀ k, D k → D' k) (hD' : ∀ k, D' k → D k ∨ (w.heap.size ≤ k ∧ k < W.heap.size ∧ ¬ Top m r dv' rv' L' k)) : StepP m s' (us' :: ls) M D w W := by
  have A := h.apart
  have hSlt := h.lev.lt
  have hST : ∀ k, S k → ¬ Top m r dv rv L k := by
    rintro k hk (rfl | rfl | h1 | h1 | h1)
    · exact A.sm hk
    · exact A.sr hk
    · exact A.sd k h1 hk
    · exact A.sc k h1 hk
    · exact A.sl k h1 hk
  have lm := lt_of_heap h.mem
  have lr := lt_of_heap h.roll
  have hT : MemT D' W m r s' us' ls dv' rv' p L' S := ⟨mem', data', rcy', rows', roll', list', olds', (h.lev.chg hc hST hoff).mono hDD, A.sr, fun b hb hs => (nl b hb).elim (fun h1 => A.sl b h1 hs) (fun h1 => by have := hSlt b hs; omega)⟩
  have hM' : ∀ k, (Top m r dv' rv' L' k ∨ S k) → M k ∨ w.heap.size ≤ k := by
    rintro k ((rfl | rfl | h1 | h1 | h1) | h1)
    · exact .inl ((hM k).2 (.inl (.inl rfl)))
    · exact .inl ((hM k).2 (.inl (.inr (.inl rfl))))
    · exact (nd k h1).imp (fun h2 => (hM k).2 (.inl (.inr (.inr (.inl h2))))) id
    · exact (nr k h1).imp (fun h2 => (hM k).2 (.inl (.inr (.inr (.inr (.inl h2)))))) id
    · exact (nl k h1).imp (fun h2 => (hM k).2 (.inl (.inr (.inr (.inr (.inr h2)))))) id
    · exact .inl ((hM k).2 (.inr h1))
  refine ⟨fun k => Top m r dv' rv' L' k ∨ S k, D', ⟨⟨dv', rv', _, _, hT.at_, fun k => ?_⟩, fun k hk => ?_⟩, hc.mono (fun k _ hk => (hM k).2 (.inl hk)), hDD, hM', fun k hk => (hD' k hk).imp id (fun h => h.1)⟩
  · unfold Mset Top
    constructor
    · rintro ((h | h | h | h | h) | h) <;> simp [h]
    · rintro (h | h | h | h | h | h) <;> simp [h]
  · rcases hD' k hk with h1 | ⟨h1, h2, h3⟩
    · have h2 := hD k h1
      refine ⟨Nat.lt_of_lt_of_le h2.1 hc.size, fun h3 => ?_⟩
      rcases hM' k h3 with h4 | h4
      · exact ((hM k).1 h4).elim (hoff k h1) h2.2
      · omega
    · exact ⟨h2, fun h4 => h4.elim h3 (fun h5 => by have := hSlt k h5; omega)⟩

end Go.Proofs.YtffgkocokkhahaaGreatDoor

/- (*mem).Create, no handle free. -/
namespace Go.Proofs.YtffgkocokkhahaaGreatDoor
open Go.RowKit

/-- What Create leaves. -/
def CreateX (m : Nat) (us : List (Un RV)) (ls : List (List (Un RV))) (M D : Nat → Prop) (l : List VV) (hd : Nat) (mk : RV → MSt RV) (u : Un RV) (w : World) (y : Ending) (w' : World) : Prop :=
  y = .returned (.tuple #[.int .i64 (hd : Int), .nilIface]) ∧ ∃ r : RV, r.l = l ∧ StepP m (mk r) ((u :: us) :: ls) M D w w'

theorem flat_snoc (us : List (Un RV)) (u : Un RV) : flat Un.cells (u :: us).reverse = flat Un.cells us.reverse ++ u.cells := by rw [List.reverse_cons, flat_append]; simp [flat]

theorem set_roll {w : World} {r : Nat} {L L' p : Value} (h : w.heap[r]? = some (.cells #[L, p, .int .i64 0] 132 (0, 0))) : (w.setCell ⟨r, 0, none⟩ L').heap[r]? = some (.cells #[L', p, .int .i64 0] 132 (0, 0)) := heap_set h 0 _

theorem new_fin {D M S : Nat → Prop} {w w1 w2 w3 : World} {m r : Nat} {s : MSt RV} {us : List (Un RV)} {ls : List (List (Un RV))} {dv dv' rv p L L' : Value} {l : List VV} {vs1 : List Value}
    (h : MemT D w m r s us ls dv rv p L S) (hM : ∀ k, M k ↔ (Top m r dv rv L k ∨ S k)) (hoff : OffTop D m r dv rv L) (hD : ∀ k, D k → k < w.heap.size ∧ ¬ S k)
    (hb1 : Below w.heap.size w w1) (hI : InsZ (fun k => w.heap.size ≤ k ∧ k < w1.heap.size) w1 l (some ⟨w.heap.size, 0, none⟩) vs1) (hcc : ConcL l) (hf : FitL l) (hl : l.length ≤ 1000)
    (hc2 : Chg (fun b => dv.ownBlock = some b) w1 w2) (ho2 : w2.ownsRow 0 87 1 dv' (s.data.length + 1) (s.data.map RV.val ++ [.slice (some ⟨w.heap.size, 0, none⟩) l.length l.length])) (hd' : ∀ b, dv'.ownBlock = some b → dv.ownBlock = some b ∨ w1.heap.size ≤ b)
    (hc3 : Chg (fun b => b = m ∨ L.ownBlock = some b) w2 w3) (hm3 : w3.heap[m]? = (w2.setCell ⟨m, 0, none⟩ dv').heap[m]?) (hr3 : w3.heap[r]? = some (.cells #[L, p, .int .i64 0] 132 (0, 0)))
    (ho3 : w3.ownsRow 0 163 3 L' (us.length + 1) (flat Un.cells us.reverse ++ [.int .i64 0, .int .i64 (s.data.length : Int), .slice none 0 0])) (hl' : ∀ b, L'.ownBlock = some b → L.ownBlock = some b ∨ w2.heap.size ≤ b) :
    ∃ r' : RV, r'.l = l ∧ StepP m ⟨s.data ++ [r'], s.rcy⟩ ((.new s.data.length :: us) :: ls) M D w (w3.setCell ⟨r, 0, none⟩ L') := by
  have A := h.apart
  have lm := lt_of_heap h.mem
  have lr := lt_of_heap h.roll
  have s1 := hb1.size
  have s2 := hc2.size
  have s3 := hc3.size
  have ldv : ∀ b, dv.ownBlock = some b → b < w.heap.size := fun b hb => own_lt h.data hb
  have lL : ∀ b, L.ownBlock = some b → b < w.heap.size := fun b hb => own_lt h.list hb
  have k12 : Chg (fun b => dv.ownBlock = some b) w w2 := (Chg.of_below hb1).next hc2 (fun _ _ h => h)
  have kW : Chg (fun b => b = m ∨ b = r ∨ L.ownBlock = some b) w2 (w3.setCell ⟨r, 0, none⟩ L') := Chg.setCell (S := fun b => b = m ∨ b = r ∨ L.ownBlock = some b) (hc3.mono (fun b _ h => h.elim .inl (fun h => .inr (.inr h)))) (p := ⟨r, 0, none⟩) (.inl (.inr (.inl rfl))) _
  have kc : Chg (fun b => b = m ∨ b = r ∨ dv.ownBlock = some b ∨ L.ownBlock = some b) w (w3.setCell ⟨r, 0, none⟩ L') := (k12.mono (fun b _ h => .inr (.inr (.inl h)))).next kW (fun b _ h => by rcases h with h | h | h; exact .inl h; exact .inr (.inl h); exact .inr (.inr (.inr h)))
  have hT : Chg (Top m r dv rv L) w (w3.setCell ⟨r, 0, none⟩ L') := kc.mono (fun b _ h => by rcases h with h | h | h | h; exact .inl h; exact .inr (.inl h); exact .inr (.inr (.inl h)); exact .inr (.inr (.inr (.inr h))))
  have hDT : ∀ k, D k → ¬ (k = m ∨ k = r ∨ dv.ownBlock = some k ∨ L.ownBlock = some k) := fun k hk h => hoff k hk (by rcases h with h | h | h | h; exact .inl h; exact .inr (.inl h); exact .inr (.inr (.inl h)); exact .inr (.inr (.inr (.inr h))))
  have hwr : (w3.setCell ⟨r, 0, none⟩ L').heap[m]? = w3.heap[m]? := heap_setCell_ne _ _ _ _ _ A.mr
  have E1 : w2.heap[m]? = w.heap[m]? := k12.block m lm (fun h => A.dm h)
  have nK : ∀ k, w.heap.size ≤ k → k < w1.heap.size → ¬ (k = m ∨ k = r ∨ dv.ownBlock = some k ∨ L.ownBlock = some k) := fun k h1 h2 h => by
    rcases h with h | h | h | h
    · omega
    · omega
    · have := ldv k h; omega
    · have := lL k h; omega
  have kn : Chg (fun b => b = m ∨ b = r ∨ dv.ownBlock = some b ∨ L.ownBlock = some b) w1 (w3.setCell ⟨r, 0, none⟩ L') := (hc2.mono (fun b _ h => .inr (.inr (.inl h)))).next kW (fun b _ h => by rcases h with h | h | h; exact .inl h; exact .inr (.inl h); exact .inr (.inr (.inr h)))
  have hnew : (RV.mk l (some ⟨w.heap.size, 0, none⟩) l.length).ok (fun k => D k ∨ (w.heap.size ≤ k ∧ k < w1.heap.size)) (w3.setCell ⟨r, 0, none⟩ L') :=
    ⟨⟨vs1, (hI.chg kn (fun k hk => nK k hk.1 hk.2)).mono (fun k hk => .inr hk)⟩, hcc, hf, hl⟩
  have hm' : ∀ b, dv'.ownBlock = some b → ¬ (b = m ∨ b = r ∨ L.ownBlock = some b) := fun b hb h => by
    rcases h with rfl | rfl | h
    · rcases hd' _ hb with h1 | h1
      · exact A.dm h1
      · omega
    · rcases hd' _ hb with h1 | h1
      · exact A.dr h1
      · omega
    · rcases hd' _ hb with h1 | h1
      · exact A.dl _ h1 h
      · have := lL b h; omega
  refine ⟨⟨l, some ⟨w.heap.size, 0, none⟩, l.length⟩, rfl, top_fin (D' := fun k => D k ∨ (w.heap.size ≤ k ∧ k < w1.heap.size)) (dv' := dv') (rv' := rv) (L' := L') h hM hoff hD hT ?_ ?_ ?_ ?_ (set_roll hr3) ?_ ?_ ?_ (fun b hb => .inl hb) ?_ (fun k hk => .inl hk) (fun k hk => ?_)⟩
  · show (w3.setCell ⟨r, 0, none⟩ L').heap[m]? = _
    rw [hwr, hm3, heap_setCell_at, E1, h.mem]
    rfl
  · have := own_chg ho2 kW hm'
    simpa [RV.val] using this
  · exact own_chg h.rcy kc (fun b hb h => by
      rcases h with rfl | rfl | h | h
      · exact A.rm hb
      · exact A.rr hb
      · exact A.dc _ h hb
      · exact A.cl _ hb h)
  · intro x hx
    rcases List.mem_append.1 hx with h1 | h1
    · exact ((h.rows x h1).chg kc hDT).mono (fun k hk => .inl hk)
    · obtain rfl := List.mem_singleton.1 h1
      exact hnew
  · have := ownsRow_setCell_other ho3 (a := ⟨r, 0, none⟩) (fun e => by
      rcases hl' _ e with h1 | h1
      · exact A.lr h1
      · have : w2.heap.size ≤ r := h1
        omega) L'
    rw [flat_snoc]
    exact this
  · intro u hu
    rcases List.mem_cons.1 hu with rfl | h1
    · exact RV.ok_nil _ _
    · exact ((h.olds u h1).chg kc hDT).mono (fun k hk => .inl hk)
  · exact fun b hb => (hd' b hb).imp id (fun h => by omega)
  · exact fun b hb => (hl' b hb).imp id (fun h => by omega)
  · rcases hk with hk | hk
    · exact .inl hk
    · refine .inr ⟨hk.1, by have := kn.size; omega, fun ht => ?_⟩
      rcases ht with h1 | h1 | h1 | h1 | h1
      · omega
      · omega
      · rcases hd' k h1 with h2 | h2
        · have := ldv k h2; omega
        · omega
      · have := own_lt h.rcy h1; omega
      · rcases hl' k h1 with h2 | h2
        · have := lL k h2; omega
        · omega

theorem blk_of {A : Option Addr} {n c g N C B : Nat} (h : (Value.slice A n c).ownBlock = some g ∨ g = B + 1) : ∀ b, (Value.slice (some ⟨g, 0, none⟩) N C).ownBlock = some b → (Value.slice A n c).ownBlock = some b ∨ B ≤ b := by
  intro b hb
  have : g = b := by simpa [Value.ownBlock] using hb
  subst this
  exact h.imp id (fun h => by omega)

set_option maxRecDepth 100000 in
set_option maxHeartbeats 6400000 in
theorem create_new {D M : Nat → Prop} {w : World} {m : Nat} {s : MSt RV} {us : List (Un RV)} {ls : List (List (Un RV))} (h : MemX m s (us :: ls) M D w) (hrc : s.rcy = []) {l : List VV} {A : Option Addr} {c : Nat} {vs : List Value} (hI : InsZ D w l A vs) (hcc : ConcL l) (hf : FitL l) (hl : l.length ≤ 1000) (hn : s.data.length ≤ 1000) (hu : us.length ≤ 1000) :
    Calls Tryz.prog 54 #[.pointer (some ⟨m, 0, none⟩), .slice A l.length c] w (CreateX m us ls M D l s.data.length (fun r => ⟨s.data ++ [r], s.rcy⟩) (.new s.data.length) w) := by
  obtain ⟨r, dv, rv, p, L, S, hT, hM, hoff, hD⟩ := h.top
  obtain ⟨A1, c1, rfl⟩ := own_form hT.data
  obtain ⟨A2, c2, rfl⟩ := own_form hT.rcy
  obtain ⟨A3, c3, rfl⟩ := own_form hT.list
  obtain ⟨n, hnn⟩ : ∃ n, n = s.data.length := ⟨_, rfl⟩
  obtain ⟨k, hkk⟩ : ∃ k, k = us.length := ⟨_, rfl⟩
  obtain ⟨i0, hi0, hz0, hz1, hz2⟩ := info_parts info_row
  obtain ⟨i1, hi1, hy0, hy1, hy2⟩ := info_parts info_undo
  have hrl : s.rcy.length = 0 := by rw [hrc]; rfl
  have AP : TopApart m r (.slice A1 n c1) (.slice A2 0 c2) (.slice A3 k c3) S := by
    have := hT.apart
    rw [hrl] at this
    rw [hnn, hkk]
    exact this
  have c0 : w.cell? ⟨m, 0, none⟩ = some (.slice A1 n c1) := by rw [hnn]; exact cell_of_heap hT.mem 0
  have c2' : w.cell? ⟨m, 2, none⟩ = some (.slice A2 0 c2) := by have := cell_of_heap hT.mem 2; rw [hrl] at this; exact this
  have c4 : w.cell? ⟨m, 4, none⟩ = some (.pointer (some ⟨r, 0, none⟩)) := cell_of_heap hT.mem 4
  have f0 : w.frozen? ⟨m, 0, none⟩ = false := free_of_heap hT.mem 0
  have lm := lt_of_heap hT.mem
  have lr := lt_of_heap hT.roll
  have hmr : m ≠ r := AP.mr
  have hrm : ¬ r = m := fun h => hmr h.symm
  have r0 : w.cell? ⟨r, 0, none⟩ = some (.slice A3 k c3) := by rw [hkk]; exact cell_of_heap hT.roll 0
  have fr0 : w.frozen? ⟨r, 0, none⟩ = false := free_of_heap hT.roll 0
  have HD0 : Hid (w.ownsRow 0 87 1 (.slice A1 n c1) n (s.data.map RV.val)) := Lib.hid (by rw [hnn]; exact hT.data)
  have HL0 : Hid (w.ownsRow 0 163 3 (.slice A3 k c3) k (flat Un.cells us.reverse)) := Lib.hid (by rw [hkk]; exact hT.list)
  have HT := Lib.hid hT
  have HRO : Hid (w.heap[r]? = some (.cells #[.slice A3 k c3, p, .int .i64 0] 132 (0, 0))) := Lib.hid (by rw [hkk]; exact hT.roll)
  have HM := Lib.hid hM
  have HF := Lib.hid hoff
  have HD := Lib.hid hD
  have HAP := Lib.hid AP
  have HN := Lib.hid hnn
  have HK := Lib.hid hkk
  have HR := Lib.hid hrl
  have HC := Lib.hid (fun w' (hb : Below w.heap.size w w') => clone_any m l A c vs w' (hI.chg (S := fun _ => False) (Chg.of_below hb) (fun _ _ h => h)) hcc hf (by omega))
  have HCC := Lib.hid hcc
  have HFF := Lib.hid hf
  rw [← hnn] at hn ⊢
  rw [← hkk] at hu
  clear hT hM hoff hD AP hnn hkk hrl hI hcc hf h hrc
  go_enter Tryz.func54, Tryz.ntmps54
  go_wp2_with fail
  go_region_law
    (first
      | (go_simp; go_at_call 78; refine (HC.out _ (by first | exact Below.refl _ _ | exact (Below.refl _ _).drew)).mono ?_; rintro y w1 ⟨vs1, rfl, hI1, hb1⟩; have HI1 := Lib.hid hI1; have HB1 : Hid (Below w.heap.size w w1) := (by first | exact Lib.hid hb1 | exact Lib.hid ⟨hb1.os, hb1.tape, hb1.output, hb1.size, hb1.block⟩); have d0 : w1.cell? ⟨m, 0, none⟩ = some (.slice A1 n c1) := (World.cell?_of_block (HB1.out.block m lm)).trans c0; have d2 : (w1.alloc (.cells #[.slice (some ⟨w.heap.size, 0, none⟩) l.length l.length] 87)).cell? ⟨m, 0, none⟩ = some (.slice A1 n c1) := (World.cell?_of_block (heap_alloc_ne w1 m _ (by have := HB1.out.size; omega))).trans d0; clear hb1 hI1)
      | (refine step_append_lies _ (by rfl) _ _ _ (by rfl) 0 87 i0 _ 1 24 Tryz.underlying109 hi0 hz0 hz1 hz2 rfl (by omega) _ n (s.data.map RV.val) (by rfl) ((own_below HD0.out HB1.out).alloc _)
          ⟨w1.heap.size, 0, none⟩ 1 1 [.slice (some ⟨w.heap.size, 0, none⟩) l.length l.length] (by rfl) (by rfl) (World.news_of_block (cs := #[.slice (some ⟨w.heap.size, 0, none⟩) l.length l.length]) (t := 87) (fr := (0, 0)) (heap_alloc_new w1 _)) (by simp [Value.oneCell'])
          (by omega) (by simp only [maxLen]; omega) (by omega) (Nat.zero_le _) (w1.heap.size + 1) (by simp) ?_
         intro gg cap2 w2 hown2 hgrow hat hlt
         have hs1 : w.heap.size ≤ w1.heap.size := HB1.out.size
         have E1 : Hid (w2.heap[m]? = w.heap[m]?) := Lib.hid ((hgrow.block m (by simp; omega) (Ne.symm HAP.out.dm)).trans ((heap_alloc_ne w1 m _ (by omega)).trans (HB1.out.block m lm)))
         have E2 : Hid (w2.heap[r]? = w.heap[r]?) := Lib.hid ((hgrow.block r (by simp; omega) (Ne.symm HAP.out.dr)).trans ((heap_alloc_ne w1 r _ (by omega)).trans (HB1.out.block r lr)))
         have e0 : w2.cell? ⟨m, 0, none⟩ = some (.slice A1 n c1) := (World.cell?_of_block E1.out).trans c0
         have e1 : w2.frozen? ⟨m, 0, none⟩ = false := (World.frozen?_of_block E1.out).trans f0
         have e4 : w2.cell? ⟨m, 4, none⟩ = some (.pointer (some ⟨r, 0, none⟩)) := (World.cell?_of_block E1.out).trans c4
         have e5 : w2.cell? ⟨r, 0, none⟩ = some (.slice A3 k c3) := (World.cell?_of_block E2.out).trans r0
         have lm2 : m < w2.heap.size := by have := hgrow.size; simp at *; omega
         have lr2 : r < w2.heap.size := by have := hgrow.size; simp at *; omega
         have hs2 : w1.heap.size ≤ w2.heap.size := by have := hgrow.size; simp at *; omega
         have HG2 : Hid (Chg (fun b => (Value.slice A1 n c1).ownBlock = some b) w1 w2) := Lib.hid (((Chg.refl _ w1).alloc _).trans ((Chg.of_grown hgrow).mono (fun b _ hb => hb.symm)))
         have HO2 := Lib.hid hown2
         have HAT2 := Lib.hid hat
         clear hgrow hown2 hat))
  all_goals
    have HL2 : Hid (w2.ownsRow 0 163 3 (.slice A3 k c3) k (flat Un.cells us.reverse)) := Lib.hid (own_chg (own_below HL0.out HB1.out) HG2.out (fun b hb e => HAP.out.dl b e hb))
    go_wp2_with (at_builtin
                 refine wpList_append_lies _ rfl (.tmp 39) (.tmp 42) _ rfl 0 163 i1 _ 3 40 Tryz.underlying130 hi1 hy0 hy1 hy2 rfl (by omega) (.slice A3 k c3) k (flat Un.cells us.reverse) rfl ((ownsRow_setCell_other HL2.out HAP.out.lm _).alloc _)
                   ⟨w2.heap.size, 0, none⟩ 1 1 [.int .i64 0, .int .i64 n, .slice none 0 0] rfl rfl (World.news_of_block (cs := #[.int .i64 0, .int .i64 n, .slice none 0 0]) (t := 163) (fr := (0, 0)) (by have := heap_new (w2.setCell ⟨m, 0, none⟩ (.slice (some ⟨gg, 0, none⟩) (n + 1) cap2)) (.cells #[.int .i64 0, .int .i64 n, .slice none 0 0] 163); simpa using this)) (by simp [Value.oneCell'])
                   (by omega) (by simp only [maxLen]; omega) (by omega) (Nat.zero_le _) (w2.heap.size + 1) (by simp) ?_
                 intro g3 cap3 w3 hown3 hgrow3 hat3 hlt3
                 have HR3 : Hid (w3.heap[r]? = some (.cells #[.slice A3 k c3, p, .int .i64 0] 132 (0, 0))) := Lib.hid ((hgrow3.block r (by simp; omega) (Ne.symm HAP.out.lr)).trans ((heap_alloc_ne _ r _ (by simp; omega)).trans ((heap_setCell_ne _ _ _ _ _ hrm).trans (E2.out.trans HRO.out))))
                 have HM3 : Hid (w3.heap[m]? = (w2.setCell ⟨m, 0, none⟩ (.slice (some ⟨gg, 0, none⟩) (n + 1) cap2)).heap[m]?) := Lib.hid ((hgrow3.block m (by simp; omega) (Ne.symm HAP.out.lm)).trans (heap_alloc_ne _ m _ (by simp; omega)))
                 have r3 : w3.cell? ⟨r, 0, none⟩ = some (.slice A3 k c3) := cell_of_heap HR3.out 0
                 have fr3 : w3.frozen? ⟨r, 0, none⟩ = false := free_of_heap HR3.out 0
                 have HG3 : Hid (Chg (fun b => b = m ∨ (Value.slice A3 k c3).ownBlock = some b) w2 w3) := Lib.hid (((Chg.setCell (S := fun b => b = m ∨ (Value.slice A3 k c3).ownBlock = some b) (Chg.refl _ w2) (p := ⟨m, 0, none⟩) (.inl (.inl rfl)) _).alloc _).trans ((Chg.of_grown hgrow3).mono (fun b _ hb => .inr hb.symm)))
                 have HO3 := Lib.hid hown3
                 have HAT3 := Lib.hid hat3
                 clear hgrow3 hown3 hat3)
    go_ret2
    have hn' := HN.out
    have hk' := HK.out
    subst hn'
    subst hk'
    exact ⟨rfl, new_fin HT.out HM.out HF.out HD.out HB1.out HI1.out HCC.out HFF.out hl HG2.out HO2.out (blk_of HAT2.out) HG3.out HM3.out HR3.out HO3.out (blk_of HAT3.out)⟩

end Go.Proofs.YtffgkocokkhahaaGreatDoor

/- (*mem).Create, of a handle that is free. -/
namespace Go.Proofs.YtffgkocokkhahaaGreatDoor
open Go.RowKit

theorem own_cut {w : World} {B n k c : Nat} {e : TypeId} {size : Nat} {A : Option Addr} {xs : List Value} (h : w.ownsRow B e size (.slice A n c) n xs) (hk : k ≤ n) (h0 : 0 < n) : w.ownsRow B e size (.slice A k c) k (xs.take (k * size)) := by
  rcases h.2 with ⟨_, h2⟩ | ⟨g, cap, cur, e1, e2, e3, e4, e5, e6, e7⟩
  · omega
  · injection e1 with h1 _ h3
    subst h1
    subst h3
    refine ⟨?_, .inr ⟨g, c, cur, rfl, e2, e3, by omega, e5, e6, ?_⟩⟩
    · rw [List.length_take, h.1]
      have := Nat.mul_le_mul_right size hk
      omega
    · rw [← e7, List.take_take]
      have := Nat.mul_le_mul_right size hk
      rw [Nat.min_eq_left (by omega)]

theorem own_cap {w : World} {B n c : Nat} {e : TypeId} {size : Nat} {A : Option Addr} {xs : List Value} (h : w.ownsRow B e size (.slice A n c) n xs) : n ≤ c := by
  rcases h.2 with ⟨h1, h2⟩ | ⟨g, cap, cur, e1, e2, e3, e4, e5, e6, e7⟩
  · omega
  · injection e1 with _ _ h3
    omega

theorem rec_fin {D M S : Nat → Prop} {w wa w1 w3 : World} {m r gd hd : Nat} {s : MSt RV} {hs : List Nat} {us : List (Un RV)} {ls : List (List (Un RV))} {rv rv' p L L' : Value} {n cd : Nat} {l : List VV} {vs1 : List Value}
    (h : MemT D w m r s us ls (.slice (some ⟨gd, 0, none⟩) n cd) rv p L S) (hM : ∀ k, M k ↔ (Top m r (.slice (some ⟨gd, 0, none⟩) n cd) rv L k ∨ S k)) (hoff : OffTop D m r (.slice (some ⟨gd, 0, none⟩) n cd) rv L) (hD : ∀ k, D k → k < w.heap.size ∧ ¬ S k)
    (hn : n = s.data.length) (hwa : wa = w.setCell ⟨m, 2, none⟩ rv') (hrv : w.ownsRow 0 3 1 rv' hs.length (hs.map natV)) (hrv' : rv'.ownBlock = rv.ownBlock)
    (hb1 : Below w.heap.size wa w1) (hI : InsZ (fun k => w.heap.size ≤ k ∧ k < w1.heap.size) w1 l (some ⟨w.heap.size, 0, none⟩) vs1) (hcc : ConcL l) (hf : FitL l) (hl : l.length ≤ 1000)
    (hc3 : Chg (fun b => L.ownBlock = some b) (w1.setCell ⟨gd, hd, none⟩ (.slice (some ⟨w.heap.size, 0, none⟩) l.length l.length)) w3)
    (ho3 : w3.ownsRow 0 163 3 L' (us.length + 1) (flat Un.cells us.reverse ++ [.int .i64 1, .int .i64 (hd : Int), .slice none 0 0])) (hl' : ∀ b, L'.ownBlock = some b → L.ownBlock = some b ∨ w1.heap.size ≤ b) :
    ∃ r' : RV, r'.l = l ∧ StepP m ⟨s.data.set hd r', hs⟩ ((.recy hd :: us) :: ls) M D w (w3.setCell ⟨r, 0, none⟩ L') := by
  have A := h.apart
  have lm := lt_of_heap h.mem
  have lr := lt_of_heap h.roll
  have lg : gd < w.heap.size := own_lt h.data rfl
  have gm : gd ≠ m := fun e => A.dm (by subst e; rfl)
  have gr : gd ≠ r := fun e => A.dr (by subst e; rfl)
  have gL : L.ownBlock ≠ some gd := A.dl gd rfl
  have gR : rv.ownBlock ≠ some gd := A.dc gd rfl
  have s1 := hb1.size
  have s3 := hc3.size
  have sa : wa.heap.size = w.heap.size := by rw [hwa]; simp
  simp at s3
  have lL : ∀ b, L.ownBlock = some b → b < w.heap.size := fun b hb => own_lt h.list hb
  have ka : Chg (fun b => b = m) w wa := hwa ▸ Chg.setCell (S := fun b => b = m) (Chg.refl _ w) (p := ⟨m, 2, none⟩) (.inl rfl) _
  have k1 : Chg (fun b => b = m) w w1 := ka.next (Chg.of_below (S := fun _ => False) (sa ▸ hb1)) (fun _ _ h => h.elim)
  have kx : Chg (fun b => b = r ∨ b = gd ∨ L.ownBlock = some b) w1 (w3.setCell ⟨r, 0, none⟩ L') := Chg.setCell (S := fun b => b = r ∨ b = gd ∨ L.ownBlock = some b)
    ((Chg.setCell (S := fun b => b = r ∨ b = gd ∨ L.ownBlock = some b) (Chg.refl _ w1) (p := ⟨gd, hd, none⟩) (.inl (.inr (.inl rfl))) _).trans (hc3.mono (fun b _ h => .inr (.inr h)))) (p := ⟨r, 0, none⟩) (.inl (.inl rfl)) _
  have kc : Chg (fun b => b = m ∨ b = r ∨ b = gd ∨ L.ownBlock = some b) w (w3.setCell ⟨r, 0, none⟩ L') := (k1.mono (fun b _ h => .inl h)).next kx (fun b _ h => .inr h)
  have hT : Chg (Top m r (.slice (some ⟨gd, 0, none⟩) n cd) rv L) w (w3.setCell ⟨r, 0, none⟩ L') := kc.mono (fun b _ h => by rcases h with h | h | h | h; exact .inl h; exact .inr (.inl h); exact .inr (.inr (.inl (by rw [h]; rfl))); exact .inr (.inr (.inr (.inr h))))
  have hDT : ∀ k, D k → ¬ (k = m ∨ k = r ∨ k = gd ∨ L.ownBlock = some k) := fun k hk h => hoff k hk (by rcases h with h | h | h | h; exact .inl h; exact .inr (.inl h); exact .inr (.inr (.inl (by rw [h]; rfl))); exact .inr (.inr (.inr (.inr h))))
  have hnew : (RV.mk l (some ⟨w.heap.size, 0, none⟩) l.length).ok (fun k => D k ∨ (w.heap.size ≤ k ∧ k < w1.heap.size)) (w3.setCell ⟨r, 0, none⟩ L') :=
    ⟨⟨vs1, (hI.chg kx (fun k hk h => by
      rcases h with h | h | h
      · omega
      · omega
      · have := lL k h; omega)).mono (fun k hk => .inr hk)⟩, hcc, hf, hl⟩
  have hd1 : w1.ownsRow 0 87 1 (.slice (some ⟨gd, 0, none⟩) n cd) n (s.data.map RV.val) := by
    have := own_chg h.data k1 (fun b hb e => A.dm (by rw [hb, e]))
    rw [← hn] at this
    exact this
  have e3 : w3.heap[m]? = w1.heap[m]? := (hc3.block m (by simp; omega) (fun e => A.lm e)).trans (heap_setCell_ne _ _ _ _ _ (fun e => gm e.symm))
  have er : w3.heap[r]? = w.heap[r]? := ((hc3.block r (by simp; omega) (fun e => A.lr e)).trans (heap_setCell_ne _ _ _ _ _ (fun e => gr e.symm))).trans (k1.block r lr (fun e => A.mr e.symm))
  refine ⟨⟨l, some ⟨w.heap.size, 0, none⟩, l.length⟩, rfl, top_fin (D' := fun k => D k ∨ (w.heap.size ≤ k ∧ k < w1.heap.size)) (dv' := .slice (some ⟨gd, 0, none⟩) n cd) (rv' := rv') (L' := L') h hM hoff hD hT ?_ ?_ ?_ ?_ (set_roll (er.trans h.roll)) ?_ ?_ (fun b hb => .inl hb) (fun b hb => .inl (hrv' ▸ hb)) (fun b hb => (hl' b hb).imp id (fun h => by omega)) (fun k hk => .inl hk) (fun k hk => ?_)⟩
  · show (w3.setCell ⟨r, 0, none⟩ L').heap[m]? = _
    rw [heap_setCell_ne _ _ _ _ _ A.mr, e3, hb1.block m lm, hwa, heap_setCell_at, h.mem]
    rfl
  · have h2 := (hd1.stored hd (.slice (some ⟨w.heap.size, 0, none⟩) l.length l.length)).1
    have h3 := own_chg h2 (hc3.mono (T := fun b => b = r ∨ L.ownBlock = some b) (fun b _ h => .inr h)) (fun b hb e => by
      have : gd = b := by simpa [Value.ownBlock] using hb
      subst this
      rcases e with e | e
      · exact gr e
      · exact gL e)
    have h4 := ownsRow_setCell_other h3 (a := ⟨r, 0, none⟩) (fun e => gr (by simpa [Value.ownBlock] using e)) L'
    rw [List.length_set, List.map_set, ← hn]
    exact h4
  · exact own_chg hrv kc (fun b hb h => by
      rw [hrv'] at hb
      rcases h with rfl | rfl | rfl | h
      · exact A.rm hb
      · exact A.rr hb
      · exact gR hb
      · exact A.cl _ hb h)
  · intro x hx
    rcases List.mem_or_eq_of_mem_set hx with h1 | rfl
    · exact ((h.rows x h1).chg kc hDT).mono (fun k hk => .inl hk)
    · exact hnew
  · have := ownsRow_setCell_other ho3 (a := ⟨r, 0, none⟩) (fun e => by
      rcases hl' _ e with h1 | h1
      · exact A.lr h1
      · have : w1.heap.size ≤ r := h1
        omega) L'
    rw [flat_snoc]
    exact this
  · intro u hu
    rcases List.mem_cons.1 hu with rfl | h1
    · exact RV.ok_nil _ _
    · exact ((h.olds u h1).chg kc hDT).mono (fun k hk => .inl hk)
  · rcases hk with hk | hk
    · exact .inl hk
    · refine .inr ⟨hk.1, by have := kx.size; omega, fun ht => ?_⟩
      rcases ht with h1 | h1 | h1 | h1 | h1
      · omega
      · omega
      · have : gd = k := by simpa [Value.ownBlock] using h1
        omega
      · rw [hrv'] at h1
        have := own_lt h.rcy h1; omega
      · rcases hl' k h1 with h2 | h2
        · have := lL k h2; omega
        · omega

theorem chg_m {w : World} (m : Nat) (o : Nat) (v : Value) : Chg (fun b => b = m) w (w.setCell ⟨m, o, none⟩ v) := Chg.setCell (S := fun b => b = m) (Chg.refl _ w) (p := ⟨m, o, none⟩) (.inl rfl) _

set_option maxRecDepth 100000 in
set_option maxHeartbeats 6400000 in
theorem create_rec {D M : Nat → Prop} {w : World} {m : Nat} {s : MSt RV} {us : List (Un RV)} {ls : List (List (Un RV))} (h : MemX m s (us :: ls) M D w) {hs : List Nat} {hd : Nat} (hrc : s.rcy = hs ++ [hd]) (hlt : hd < s.data.length) {l : List VV} {A : Option Addr} {c : Nat} {vs : List Value} (hI : InsZ D w l A vs) (hcc : ConcL l) (hf : FitL l) (hl : l.length ≤ 1000) (hn : s.data.length ≤ 1000) (hu : us.length ≤ 1000) (hq1 : s.rcy.length ≤ 1000) :
    Calls Tryz.prog 54 #[.pointer (some ⟨m, 0, none⟩), .slice A l.length c] w (CreateX m us ls M D l hd (fun r => ⟨s.data.set hd r, hs⟩) (.recy hd) w) := by
  obtain ⟨r, dv, rv, p, L, S, hT, hM, hoff, hD⟩ := h.top
  obtain ⟨gd, cd, rfl, _, lgd⟩ := hT.data.form (by omega)
  obtain ⟨g2, c2, rfl, _, lg2⟩ := hT.rcy.form (by rw [hrc]; simp)
  obtain ⟨A3, c3, rfl⟩ := own_form hT.list
  obtain ⟨n, hnn⟩ : ∃ n, n = s.data.length := ⟨_, rfl⟩
  obtain ⟨k, hkk⟩ : ∃ k, k = us.length := ⟨_, rfl⟩
  obtain ⟨q, hqq⟩ : ∃ q, q = hs.length := ⟨_, rfl⟩
  obtain ⟨n2, hn2⟩ : ∃ n2, n2 = q + 1 := ⟨_, rfl⟩
  have hne : ((n2 : Int) != 0) = true := by
    have h0 : (n2 : Int) ≠ 0 := by rw [hn2]; exact Int.ofNat_ne_zero.2 (Nat.succ_ne_zero q)
    exact bne_iff_ne.2 h0
  obtain ⟨i1, hi1, hy0, hy1, hy2⟩ := info_parts info_undo
  have hrl : s.rcy.length = n2 := by rw [hrc, hn2, hqq]; simp
  have AP : TopApart m r (.slice (some ⟨gd, 0, none⟩) n cd) (.slice (some ⟨g2, 0, none⟩) n2 c2) (.slice A3 k c3) S := by
    have := hT.apart
    rw [hrl] at this
    rw [hnn, hkk]
    exact this
  have HRC : Hid (w.ownsRow 0 3 1 (.slice (some ⟨g2, 0, none⟩) n2 c2) n2 (hs.map natV ++ [natV hd])) := Lib.hid (by have := hT.rcy; rw [hrl, hrc] at this; simpa using this)
  have HRV : Hid (w.ownsRow 0 3 1 (.slice (some ⟨g2, 0, none⟩) q c2) hs.length (hs.map natV)) := Lib.hid (by
    have h1 := own_cut HRC.out (k := q) (by omega) (by omega)
    rw [Nat.mul_one, List.take_append_of_le_length (by simp; omega), List.take_of_length_le (by simp; omega)] at h1
    rw [← hqq]
    exact h1)
  have lcap : q ≤ c2 := Nat.le_trans (by omega) (own_cap HRC.out)
  have c2' : w.cell? ⟨m, 2, none⟩ = some (.slice (some ⟨g2, 0, none⟩) n2 c2) := by have := cell_of_heap hT.mem 2; rw [hrl] at this; exact this
  have cq : w.cell? ⟨g2, q, none⟩ = some (.int .i64 hd) := by
    rw [HRC.out.cellAt q (by omega), List.getElem?_append_right (by simp; omega), List.length_map, ← hqq, Nat.sub_self]
    rfl
  have f2 : w.frozen? ⟨m, 2, none⟩ = false := free_of_heap hT.mem 2
  have lm := lt_of_heap hT.mem
  have lr := lt_of_heap hT.roll
  have hmr : m ≠ r := AP.mr
  have hrm : ¬ r = m := fun h => hmr h.symm
  have gm : ¬ gd = m := fun e => AP.dm (by subst e; rfl)
  have mg : ¬ m = gd := fun e => gm e.symm
  have gr : ¬ gd = r := fun e => AP.dr (by subst e; rfl)
  have rg : ¬ r = gd := fun e => gr e.symm
  have hw2 : (n2 : Int) - 1 = q := by omega
  have hw1 : IntKind.i64.wrap ((n2 : Int) - 1) = q := by rw [hw2]; exact IntWalk.i64_in _ (by omega)
  have hw3 : wrap64 (q : Int) = q := wrap64_of (by omega) (by omega)
  have hqn : q < n2 := by omega
  have HT := Lib.hid hT
  have HM := Lib.hid hM
  have HF := Lib.hid hoff
  have HD := Lib.hid hD
  have HAP := Lib.hid AP
  have HN := Lib.hid hnn
  have HK := Lib.hid hkk
  have HQ := Lib.hid hqq
  have HR := Lib.hid hrl
  have HRO : Hid (w.heap[r]? = some (.cells #[.slice A3 k c3, p, .int .i64 0] 132 (0, 0))) := Lib.hid (by rw [hkk]; exact hT.roll)
  have HMO : Hid (w.heap[m]? = some (.cells #[.slice (some ⟨gd, 0, none⟩) n cd, .int .i64 0, .slice (some ⟨g2, 0, none⟩) n2 c2, .int .i64 ((ls.length + 1 : Nat) : Int), ptr r, .int .i32 0, .int .u32 0, .int .u32 0, .int .u32 0, .int .i32 0, .int .i32 0] 125 (0, 0))) := Lib.hid (by have := hT.mem; unfold MemL at this; rw [hrl] at this; rw [hnn]; exact this)
  have HDA : Hid (w.ownsRow 0 87 1 (.slice (some ⟨gd, 0, none⟩) n cd) n (s.data.map RV.val)) := Lib.hid (by rw [hnn]; exact hT.data)
  have HL0 : Hid (w.ownsRow 0 163 3 (.slice A3 k c3) k (flat Un.cells us.reverse)) := Lib.hid (by rw [hkk]; exact hT.list)
  have HC := Lib.hid (fun w' (hb : Chg (fun b => b = m) w w') => clone_any m l A c vs w' (hI.chg hb (fun k hk e => hoff k hk (.inl e))) hcc hf (by omega))
  have HCC := Lib.hid hcc
  have HFF := Lib.hid hf
  have hltn : hd < n := by omega
  obtain ⟨xv, hxv⟩ : ∃ x, (s.data.map RV.val)[hd]? = some x := ⟨_, List.getElem?_eq_getElem (by simpa using hlt)⟩
  have hdc : w.cell? ⟨gd, hd, none⟩ = some xv := (HDA.out.cellAt hd (by omega)).trans hxv
  have hdf : w.frozen? ⟨gd, hd, none⟩ = false := HDA.out.frozenAt hd
  have HLT := Lib.hid hlt
  have HRCE := Lib.hid hrc
  rw [← hnn] at hn
  rw [← hkk] at hu
  clear hT hM hoff hD AP hnn hkk hqq hrl hI hcc hf h hrc hlt hxv hn2 hq1
  go_enter Tryz.func54, Tryz.ntmps54
  go_wp2_with fail
  obtain ⟨wa, hwa⟩ : ∃ wa, wa = w.setCell ⟨m, 2, none⟩ (.slice (some ⟨g2, 0, none⟩) q c2) := ⟨_, rfl⟩
  rw [← hwa]
  have HWA := Lib.hid hwa
  have ka : Chg (fun b => b = m) w wa := hwa ▸ chg_m m 2 _
  have sa : wa.heap.size = w.heap.size := by rw [hwa]; simp
  have HMA : Hid (wa.heap[m]? = some (.cells #[.slice (some ⟨gd, 0, none⟩) n cd, .int .i64 0, .slice (some ⟨g2, 0, none⟩) q c2, .int .i64 ((ls.length + 1 : Nat) : Int), ptr r, .int .i32 0, .int .u32 0, .int .u32 0, .int .u32 0, .int .i32 0, .int .i32 0] 125 (0, 0))) := Lib.hid (by rw [hwa, heap_setCell_at, HMO.out]; rfl)
  have HKA := Lib.hid ka
  have a0 : wa.cell? ⟨m, 0, none⟩ = some (.slice (some ⟨gd, 0, none⟩) n cd) := cell_of_heap HMA.out 0
  clear hwa ka c2' cq f2
  have hdcA : wa.cell? ⟨gd, hd, none⟩ = some xv := (World.cell?_of_block (HKA.out.block gd lgd gm)).trans hdc
  have hdfA : wa.frozen? ⟨gd, hd, none⟩ = false := (World.frozen?_of_block (HKA.out.block gd lgd gm)).trans hdf
  clear hdc hdf
  go_region_law
    (go_simp; go_at_call 78
     refine (HC.out _ (by first | exact HKA.out | exact HKA.out.drew)).mono ?_
     rintro y w1 ⟨vs1, rfl, hI1, hb1⟩
     have hb1' : Below w.heap.size wa w1 := (by first | exact sa ▸ hb1 | exact sa ▸ ⟨hb1.os, hb1.tape, hb1.output, hb1.size, hb1.block⟩)
     have HB1 := Lib.hid hb1'
     have e1 : wa.drew.heap.size = w.heap.size := sa
     have HI1 : Hid (InsZ (fun k => w.heap.size ≤ k ∧ k < w1.heap.size) w1 l (some ⟨w.heap.size, 0, none⟩) vs1) := Lib.hid (by first | (rw [e1] at hI1; exact hI1) | (rw [sa] at hI1; exact hI1))
     have d0 : w1.cell? ⟨m, 0, none⟩ = some (.slice (some ⟨gd, 0, none⟩) n cd) := (World.cell?_of_block (hb1'.block m lm)).trans a0
     have d1 : w1.cell? ⟨gd, hd, none⟩ = some xv := (World.cell?_of_block (hb1'.block gd lgd)).trans hdcA
     have d2 : w1.frozen? ⟨gd, hd, none⟩ = false := (World.frozen?_of_block (hb1'.block gd lgd)).trans hdfA
     clear hb1 hb1' hI1)
  all_goals
    obtain ⟨w2, hw2'⟩ : ∃ w2, w2 = w1.setCell ⟨gd, hd, none⟩ (.slice (some ⟨w.heap.size, 0, none⟩) l.length l.length) := ⟨_, rfl⟩
    rw [← hw2']
    have hs1 : w.heap.size ≤ w1.heap.size := by have := HB1.out.size; omega
    have hs2 : w2.heap.size = w1.heap.size := by rw [hw2']; simp
    have E1 : Hid (w2.heap[m]? = wa.heap[m]?) := Lib.hid (by rw [hw2', heap_setCell_ne _ _ _ _ _ mg]; exact HB1.out.block m lm)
    have E2 : Hid (w2.heap[r]? = w.heap[r]?) := Lib.hid (by rw [hw2', heap_setCell_ne _ _ _ _ _ rg]; exact (HB1.out.block r lr).trans (HKA.out.block r lr hrm))
    have HL2 : Hid (w2.ownsRow 0 163 3 (.slice A3 k c3) k (flat Un.cells us.reverse)) := Lib.hid (by
      rw [hw2']
      exact ownsRow_setCell_other (own_below (own_chg HL0.out HKA.out (fun b hb e => HAP.out.lm (by rw [hb, e]))) (sa ▸ HB1.out)) (HAP.out.dl gd rfl) _)
    have HW2 := Lib.hid hw2'
    have lm2 : m < w2.heap.size := by omega
    have lr2 : r < w2.heap.size := by omega
    have HS2 := Lib.hid hs2
    clear hs2
    have e4 : w2.cell? ⟨m, 4, none⟩ = some (.pointer (some ⟨r, 0, none⟩)) := (World.cell?_of_block E1.out).trans (cell_of_heap HMA.out 4)
    have e5 : w2.cell? ⟨r, 0, none⟩ = some (.slice A3 k c3) := (World.cell?_of_block E2.out).trans (cell_of_heap HRO.out 0)
    have e6 : w2.frozen? ⟨r, 0, none⟩ = false := (World.frozen?_of_block E2.out).trans (free_of_heap HRO.out 0)
    clear hw2' d0 d1 d2 hdcA hdfA a0
    go_wp2_with (at_builtin
                 refine wpList_append_lies _ rfl (.tmp 84) (.tmp 87) _ rfl 0 163 i1 _ 3 40 Tryz.underlying130 hi1 hy0 hy1 hy2 rfl (by omega) (.slice A3 k c3) k (flat Un.cells us.reverse) rfl (HL2.out.alloc _) ⟨w2.heap.size, 0, none⟩ 1 1 [.int .i64 1, .int .i64 hd, .slice none 0 0] rfl rfl (World.news_of_block (cs := #[.int .i64 1, .int .i64 hd, .slice none 0 0]) (t := 163) (fr := (0, 0)) (heap_new w2 _)) (by simp [Value.oneCell']) (by omega) (by simp only [maxLen]; omega) (by omega) (Nat.zero_le _) (w2.heap.size + 1) (by simp) ?_
                 intro g3 cap3 w3 hown3 hgrow3 hat3 hlt3
                 have E3 : Hid (w3.heap[r]? = w2.heap[r]?) := Lib.hid ((hgrow3.block r (by simp; omega) (Ne.symm HAP.out.lr)).trans (heap_alloc_ne _ r _ lr2))
                 have r3 : w3.cell? ⟨r, 0, none⟩ = some (.slice A3 k c3) := (World.cell?_of_block E3.out).trans e5
                 have fr3 : w3.frozen? ⟨r, 0, none⟩ = false := (World.frozen?_of_block E3.out).trans e6
                 have HG3 : Hid (Chg (fun b => (Value.slice A3 k c3).ownBlock = some b) w2 w3) := Lib.hid (((Chg.refl _ w2).alloc _).trans ((Chg.of_grown hgrow3).mono (fun b _ hb => hb.symm)))
                 have HO3 := Lib.hid hown3
                 have HAT3 := Lib.hid hat3
                 clear hgrow3 hown3 hat3)
    go_ret2
    have hn' := HN.out
    have hk' := HK.out
    have hw2' := HW2.out
    have hB := blk_of (N := us.length + 1) (C := cap3) HAT3.out
    rw [HS2.out] at hB
    subst hw2'
    have hT := HT.out
    have hM := HM.out
    have hF := HF.out
    rw [HR.out] at hT hM hF
    subst hk'
    rw [← hn'] at hT hM hF
    exact ⟨rfl, rec_fin hT hM hF HD.out hn' HWA.out HRV.out rfl (by rw [← sa]; exact sa ▸ HB1.out) HI1.out HCC.out HFF.out hl HG3.out HO3.out hB⟩

end Go.Proofs.YtffgkocokkhahaaGreatDoor

/- (*mem).Update. -/
namespace Go.Proofs.YtffgkocokkhahaaGreatDoor
open Go.RowKit

def UpdateX (m : Nat) (us : List (Un RV)) (ls : List (List (Un RV))) (M D : Nat → Prop) (l : List VV) (mk : RV → MSt RV) (u : Un RV) (w : World) (y : Ending) (w' : World) : Prop :=
  y = .returned .nilIface ∧ ∃ r : RV, r.l = l ∧ StepP m (mk r) ((u :: us) :: ls) M D w w'

theorem upd_fin {D M S : Nat → Prop} {w w1 w3 : World} {m r gd hd : Nat} {s : MSt RV} {us : List (Un RV)} {ls : List (List (Un RV))} {rv p L L' : Value} {n cd : Nat} {o : RV} {l : List VV} {vs1 : List Value}
    (h : MemT D w m r s us ls (.slice (some ⟨gd, 0, none⟩) n cd) rv p L S) (hM : ∀ k, M k ↔ (Top m r (.slice (some ⟨gd, 0, none⟩) n cd) rv L k ∨ S k)) (hoff : OffTop D m r (.slice (some ⟨gd, 0, none⟩) n cd) rv L) (hD : ∀ k, D k → k < w.heap.size ∧ ¬ S k)
    (hn : n = s.data.length) (ho : s.data[hd]? = some o)
    (hc1 : Chg (fun b => L.ownBlock = some b) w w1) (ho1 : w1.ownsRow 0 163 3 L' (us.length + 1) (flat Un.cells us.reverse ++ [.int .i64 2, .int .i64 (hd : Int), o.val])) (hl' : ∀ b, L'.ownBlock = some b → L.ownBlock = some b ∨ w.heap.size ≤ b)
    (hb3 : Below w1.heap.size (w1.setCell ⟨r, 0, none⟩ L') w3) (hI : InsZ (fun k => w1.heap.size ≤ k ∧ k < w3.heap.size) w3 l (some ⟨w1.heap.size, 0, none⟩) vs1) (hcc : ConcL l) (hf : FitL l) (hl : l.length ≤ 1000) :
    ∃ r' : RV, r'.l = l ∧ StepP m ⟨s.data.set hd r', s.rcy⟩ ((.upd hd o :: us) :: ls) M D w (w3.setCell ⟨gd, hd, none⟩ (.slice (some ⟨w1.heap.size, 0, none⟩) l.length l.length)) := by
  have A := h.apart
  have lm := lt_of_heap h.mem
  have lr := lt_of_heap h.roll
  have lg : gd < w.heap.size := own_lt h.data rfl
  have gm : gd ≠ m := fun e => A.dm (by subst e; rfl)
  have gr : gd ≠ r := fun e => A.dr (by subst e; rfl)
  have gL : L.ownBlock ≠ some gd := A.dl gd rfl
  have gR : rv.ownBlock ≠ some gd := A.dc gd rfl
  have s1 := hc1.size
  have s3 := hb3.size
  simp at s3
  have lL : ∀ b, L.ownBlock = some b → b < w.heap.size := fun b hb => own_lt h.list hb
  have k1 : Chg (fun b => b = r ∨ L.ownBlock = some b) w (w1.setCell ⟨r, 0, none⟩ L') := Chg.setCell (S := fun b => b = r ∨ L.ownBlock = some b) (hc1.mono (fun b _ h => .inr h)) (p := ⟨r, 0, none⟩) (.inl (.inl rfl)) _
  have k3 : Chg (fun b => b = r ∨ L.ownBlock = some b) w w3 := k1.next (Chg.of_below (S := fun _ => False) (by simpa using hb3)) (fun _ _ h => h.elim)
  obtain ⟨W, hW⟩ : ∃ W, W = w3.setCell ⟨gd, hd, none⟩ (.slice (some ⟨w1.heap.size, 0, none⟩) l.length l.length) := ⟨_, rfl⟩
  rw [← hW]
  have kg : Chg (fun b => b = gd) w3 W := hW ▸ chg_m gd hd _
  have kc : Chg (fun b => b = r ∨ b = gd ∨ L.ownBlock = some b) w W := (k3.mono (fun b _ h => h.elim .inl (fun h => .inr (.inr h)))).next kg (fun b _ h => .inr (.inl h))
  have hT : Chg (Top m r (.slice (some ⟨gd, 0, none⟩) n cd) rv L) w W := kc.mono (fun b _ h => by rcases h with h | h | h; exact .inr (.inl h); exact .inr (.inr (.inl (by rw [h]; rfl))); exact .inr (.inr (.inr (.inr h))))
  have hDT : ∀ k, D k → ¬ (k = r ∨ k = gd ∨ L.ownBlock = some k) := fun k hk h => hoff k hk (by rcases h with h | h | h; exact .inr (.inl h); exact .inr (.inr (.inl (by rw [h]; rfl))); exact .inr (.inr (.inr (.inr h))))
  have hnew : (RV.mk l (some ⟨w1.heap.size, 0, none⟩) l.length).ok (fun k => D k ∨ (w1.heap.size ≤ k ∧ k < w3.heap.size)) W :=
    ⟨⟨vs1, (hI.chg kg (fun k hk h => by omega)).mono (fun k hk => .inr hk)⟩, hcc, hf, hl⟩
  have ls' : ∀ b, L'.ownBlock = some b → b < w1.heap.size := fun b hb => own_lt ho1 hb
  have e1 : w3.heap[m]? = w.heap[m]? := k3.block m lm (fun e => e.elim (fun e => A.mr e) (fun e => A.lm e))
  have er : w3.heap[r]? = some (.cells #[L', p, .int .i64 0] 132 (0, 0)) := (hb3.block r (by omega)).trans (set_roll ((hc1.block r lr (fun e => A.lr e)).trans h.roll))
  have hd3 : w3.ownsRow 0 87 1 (.slice (some ⟨gd, 0, none⟩) n cd) n (s.data.map RV.val) := by
    have := own_chg h.data k3 (fun b hb e => e.elim (fun e => A.dr (by rw [hb, e])) (fun e => A.dl b hb e))
    rw [← hn] at this
    exact this
  have hom : o ∈ s.data := List.mem_of_getElem? ho
  refine ⟨⟨l, some ⟨w1.heap.size, 0, none⟩, l.length⟩, rfl, top_fin (D' := fun k => D k ∨ (w1.heap.size ≤ k ∧ k < w3.heap.size)) (dv' := .slice (some ⟨gd, 0, none⟩) n cd) (rv' := rv) (L' := L') h hM hoff hD hT ?_ ?_ ?_ ?_ ?_ ?_ ?_ (fun b hb => .inl hb) (fun b hb => .inl hb) hl' (fun k hk => .inl hk) (fun k hk => ?_)⟩
  · show W.heap[m]? = _
    rw [hW, heap_setCell_ne _ _ _ _ _ (fun e => gm e.symm), e1, h.mem]
  · have h2 := (hd3.stored hd (.slice (some ⟨w1.heap.size, 0, none⟩) l.length l.length)).1
    rw [hW, List.length_set, List.map_set, ← hn]
    exact h2
  · exact own_chg h.rcy kc (fun b hb h => by
      rcases h with rfl | rfl | h
      · exact A.rr hb
      · exact gR hb
      · exact A.cl _ hb h)
  · intro x hx
    rcases List.mem_or_eq_of_mem_set hx with h1 | rfl
    · exact ((h.rows x h1).chg kc hDT).mono (fun k hk => .inl hk)
    · exact hnew
  · rw [hW, heap_setCell_ne _ _ _ _ _ (fun e => gr e.symm)]
    exact er
  · have h2 := ownsRow_setCell_other ho1 (a := ⟨r, 0, none⟩) (fun e => by
      rcases hl' _ e with h1 | h1
      · exact A.lr h1
      · have : w.heap.size ≤ r := h1
        omega) L'
    have h3 := own_below h2 (by simpa using hb3)
    have h4 := ownsRow_setCell_other h3 (a := ⟨gd, hd, none⟩) (fun e => by
      rcases hl' _ e with h1 | h1
      · exact gL h1
      · have : w.heap.size ≤ gd := h1
        omega) (.slice (some ⟨w1.heap.size, 0, none⟩) l.length l.length)
    rw [flat_snoc, hW]
    exact h4
  · intro u hu
    rcases List.mem_cons.1 hu with rfl | h1
    · exact ((h.rows o hom).chg kc hDT).mono (fun k hk => .inl hk)
    · exact ((h.olds u h1).chg kc hDT).mono (fun k hk => .inl hk)
  · rcases hk with hk | hk
    · exact .inl hk
    · refine .inr ⟨by omega, by have := kg.size; omega, fun ht => ?_⟩
      rcases ht with h1 | h1 | h1 | h1 | h1
      · omega
      · omega
      · have : gd = k := by simpa [Value.ownBlock] using h1
        omega
      · have := own_lt h.rcy h1; omega
      · have := ls' k h1; omega

set_option maxRecDepth 100000 in
set_option maxHeartbeats 6400000 in
theorem update_any {D M : Nat → Prop} {w : World} {m : Nat} {s : MSt RV} {us : List (Un RV)} {ls : List (List (Un RV))} (h : MemX m s (us :: ls) M D w) {hd : Nat} {o : RV} (ho : s.data[hd]? = some o) {l : List VV} {A : Option Addr} {c : Nat} {vs : List Value} (hI : InsZ D w l A vs) (hcc : ConcL l) (hf : FitL l) (hl : l.length ≤ 1000) (hn : s.data.length ≤ 1000) (hu : us.length ≤ 1000) :
    Calls Tryz.prog 57 #[.pointer (some ⟨m, 0, none⟩), .int .i64 hd, .slice A l.length c] w (UpdateX m us ls M D l (fun r => ⟨s.data.set hd r, s.rcy⟩) (.upd hd o) w) := by
  have hlt := (List.getElem?_eq_some_iff.1 ho).1
  obtain ⟨r, dv, rv, p, L, S, hT, hM, hoff, hD⟩ := h.top
  obtain ⟨gd, cd, rfl, _, lgd⟩ := hT.data.form (by omega)
  obtain ⟨A3, c3, rfl⟩ := own_form hT.list
  obtain ⟨n, hnn⟩ : ∃ n, n = s.data.length := ⟨_, rfl⟩
  obtain ⟨k, hkk⟩ : ∃ k, k = us.length := ⟨_, rfl⟩
  obtain ⟨Ao, no, co, hov⟩ : ∃ Ao no co, o.val = .slice Ao no co := ⟨_, _, _, rfl⟩
  obtain ⟨i1, hi1, hy0, hy1, hy2⟩ := info_parts info_undo
  have AP : TopApart m r (.slice (some ⟨gd, 0, none⟩) n cd) rv (.slice A3 k c3) S := by
    have := hT.apart
    rw [hnn, hkk]
    exact this
  have lm := lt_of_heap hT.mem
  have lr := lt_of_heap hT.roll
  have hmr : m ≠ r := AP.mr
  have hrm : ¬ r = m := fun h => hmr h.symm
  have gm : ¬ gd = m := fun e => AP.dm (by subst e; rfl)
  have mg : ¬ m = gd := fun e => gm e.symm
  have gr : ¬ gd = r := fun e => AP.dr (by subst e; rfl)
  have rg : ¬ r = gd := fun e => gr e.symm
  have c0 : w.cell? ⟨m, 0, none⟩ = some (.slice (some ⟨gd, 0, none⟩) n cd) := by rw [hnn]; exact cell_of_heap hT.mem 0
  have c4 : w.cell? ⟨m, 4, none⟩ = some (.pointer (some ⟨r, 0, none⟩)) := cell_of_heap hT.mem 4
  have r0 : w.cell? ⟨r, 0, none⟩ = some (.slice A3 k c3) := by rw [hkk]; exact cell_of_heap hT.roll 0
  have fr0 : w.frozen? ⟨r, 0, none⟩ = false := free_of_heap hT.roll 0
  have HT := Lib.hid hT
  have HM := Lib.hid hM
  have HF := Lib.hid hoff
  have HD := Lib.hid hD
  have HAP := Lib.hid AP
  have HN := Lib.hid hnn
  have HK := Lib.hid hkk
  have HOV := Lib.hid hov
  have HO := Lib.hid ho
  have HDA : Hid (w.ownsRow 0 87 1 (.slice (some ⟨gd, 0, none⟩) n cd) n (s.data.map RV.val)) := Lib.hid (by rw [hnn]; exact hT.data)
  have HL0 : Hid (w.ownsRow 0 163 3 (.slice A3 k c3) k (flat Un.cells us.reverse)) := Lib.hid (by rw [hkk]; exact hT.list)
  have HC := Lib.hid (fun w' (hb : Chg (fun b => b = r ∨ (Value.slice A3 k c3).ownBlock = some b) w w') => clone_any m l A c vs w' (hI.chg hb (fun x hx e => hoff x hx (by rcases e with e | e; exact .inr (.inl e); exact .inr (.inr (.inr (.inr (by rw [← hkk]; exact e))))))) hcc hf (by omega))
  have HCC := Lib.hid hcc
  have HFF := Lib.hid hf
  have hltn : hd < n := by omega
  have hdc : w.cell? ⟨gd, hd, none⟩ = some (.slice Ao no co) := (HDA.out.cellAt hd (by omega)).trans (by rw [List.getElem?_map, ho, Option.map_some, hov])
  have hdf : w.frozen? ⟨gd, hd, none⟩ = false := HDA.out.frozenAt hd
  rw [← hnn] at hn
  rw [← hkk] at hu
  clear hT hM hoff hD AP hnn hkk hI hcc hf h hlt ho hov
  go_enter Tryz.func57, Tryz.ntmps57
  go_wp2_with fail
  go_region_law
    ((refine step_append_lies _ (by rfl) _ _ _ (by rfl) 0 163 i1 _ 3 40 Tryz.underlying130 hi1 hy0 hy1 hy2 rfl (by omega) (.slice A3 k c3) k (flat Un.cells us.reverse) (by rfl) ((HL0.out.alloc _).drew)
        ⟨w.heap.size, 0, none⟩ 1 1 [.int .i64 2, .int .i64 hd, .slice Ao no co] (by rfl) (by rfl) (World.news_of_block (cs := #[.int .i64 2, .int .i64 hd, .slice Ao no co]) (t := 163) (fr := (0, 0)) (heap_alloc_new w _)) (by simp [Value.oneCell'])
        (by omega) (by simp only [maxLen]; omega) (by omega) (Nat.zero_le _) (w.heap.size + 1) (by simp) ?_; intro gg cap w1 hown1 hgrow hat hlt1
      have HG1 : Hid (Chg (fun b => (Value.slice A3 k c3).ownBlock = some b) w w1) := Lib.hid ((((Chg.refl _ w).alloc _).drew).trans ((Chg.of_grown hgrow).mono (fun b _ hb => hb.symm)))
      have E1 : Hid (w1.heap[m]? = w.heap[m]?) := Lib.hid (HG1.out.block m lm (fun e => HAP.out.lm e))
      have E2 : Hid (w1.heap[r]? = w.heap[r]?) := Lib.hid (HG1.out.block r lr (fun e => HAP.out.lr e))
      have r1 : w1.cell? ⟨r, 0, none⟩ = some (.slice A3 k c3) := (World.cell?_of_block E2.out).trans r0
      have fr1 : w1.frozen? ⟨r, 0, none⟩ = false := (World.frozen?_of_block E2.out).trans fr0
      have HO1 := Lib.hid hown1
      have HAT1 := Lib.hid hat
      clear hown1 hgrow hat))
  all_goals
    obtain ⟨w2, hw2⟩ : ∃ w2, w2 = w1.setCell ⟨r, 0, none⟩ (.slice (some ⟨gg, 0, none⟩) (k + 1) cap) := ⟨_, rfl⟩
    rw [← hw2]
    have hs2 : w2.heap.size = w1.heap.size := by rw [hw2]; simp
    have hs1 := HG1.out.size
    have k2 : Chg (fun b => b = r ∨ (Value.slice A3 k c3).ownBlock = some b) w w2 := hw2 ▸ Chg.setCell (S := fun b => b = r ∨ (Value.slice A3 k c3).ownBlock = some b) (HG1.out.mono (fun b _ h => .inr h)) (p := ⟨r, 0, none⟩) (.inl (.inl rfl)) _
    have E3 : Hid (w2.heap[m]? = w.heap[m]?) := Lib.hid (k2.block m lm (fun e => e.elim (fun e => hmr e) (fun e => HAP.out.lm e)))
    have E4 : Hid (w2.heap[gd]? = w.heap[gd]?) := Lib.hid (k2.block gd lgd (fun e => e.elim (fun e => gr e) (fun e => HAP.out.dl gd rfl e)))
    have d0 : w2.cell? ⟨m, 0, none⟩ = some (.slice (some ⟨gd, 0, none⟩) n cd) := (World.cell?_of_block E3.out).trans c0
    have d1 : w2.cell? ⟨gd, hd, none⟩ = some (.slice Ao no co) := (World.cell?_of_block E4.out).trans hdc
    have d2 : w2.frozen? ⟨gd, hd, none⟩ = false := (World.frozen?_of_block E4.out).trans hdf
    have lm2 : m < w2.heap.size := by omega
    have lg2 : gd < w2.heap.size := by omega
    have HW2 := Lib.hid hw2
    have HS2 := Lib.hid hs2
    have HK2 := Lib.hid k2
    clear hw2 hs2 k2 hs1 r1 fr1
    go_wp2_with fail
    go_region_law
      (go_simp; go_at_call 78
       refine (HC.out _ (by first | exact HK2.out | exact HK2.out.drew)).mono ?_
       rintro y w3 ⟨vs1, rfl, hI1, hb1⟩
       have hb1' : Below w2.heap.size w2 w3 := (by first | exact hb1 | exact ⟨hb1.os, hb1.tape, hb1.output, hb1.size, hb1.block⟩)
       have HB1 := Lib.hid hb1'
       have HI1 : Hid (InsZ (fun k => w2.heap.size ≤ k ∧ k < w3.heap.size) w3 l (some ⟨w2.heap.size, 0, none⟩) vs1) := Lib.hid hI1
       have d3 : w3.cell? ⟨m, 0, none⟩ = some (.slice (some ⟨gd, 0, none⟩) n cd) := (World.cell?_of_block (hb1'.block m lm2)).trans d0
       have d4 : w3.cell? ⟨gd, hd, none⟩ = some (.slice Ao no co) := (World.cell?_of_block (hb1'.block gd lg2)).trans d1
       have d5 : w3.frozen? ⟨gd, hd, none⟩ = false := (World.frozen?_of_block (hb1'.block gd lg2)).trans d2
       clear hb1 hb1' hI1)
    all_goals
      go_wp2
      go_ret
      have hn' := HN.out
      have hk' := HK.out
      have hB := blk_of (N := us.length + 1) (C := cap) HAT1.out
      have hw2 := HW2.out
      have hb := HB1.out
      have hi := HI1.out
      rw [HS2.out] at hb hi ⊢
      rw [hw2] at hb
      have hT := HT.out
      have hM := HM.out
      have hF := HF.out
      subst hk'
      rw [← hn'] at hT hM hF
      have hO1 := HO1.out
      rw [← HOV.out] at hO1
      exact ⟨rfl, upd_fin hT hM hF HD.out hn' HO.out HG1.out hO1 hB hb hi HCC.out HFF.out hl⟩

end Go.Proofs.YtffgkocokkhahaaGreatDoor

/- (*mem).Delete. -/
namespace Go.Proofs.YtffgkocokkhahaaGreatDoor
open Go.RowKit

def DeleteX (m : Nat) (us : List (Un RV)) (ls : List (List (Un RV))) (M D : Nat → Prop) (s : MSt RV) (u : Un RV) (w : World) (y : Ending) (w' : World) : Prop :=
  y = .returned .nilIface ∧ StepP m s ((u :: us) :: ls) M D w w'

theorem info_int : (Tryz.prog.info? 3).map (fun i => (i.zero, i.size, i.bytes)) = some (some (.int .i64 0), 1, 8) := by kernel_rfl

theorem del_fin {D M S : Nat → Prop} {w w1 w3 : World} {m r gd hd : Nat} {s : MSt RV} {us : List (Un RV)} {ls : List (List (Un RV))} {rv rv' p L L' : Value} {n cd : Nat} {o : RV}
    (h : MemT D w m r s us ls (.slice (some ⟨gd, 0, none⟩) n cd) rv p L S) (hM : ∀ k, M k ↔ (Top m r (.slice (some ⟨gd, 0, none⟩) n cd) rv L k ∨ S k)) (hoff : OffTop D m r (.slice (some ⟨gd, 0, none⟩) n cd) rv L) (hD : ∀ k, D k → k < w.heap.size ∧ ¬ S k)
    (hn : n = s.data.length) (ho : s.data[hd]? = some o)
    (hc1 : Chg (fun b => L.ownBlock = some b) w w1) (ho1 : w1.ownsRow 0 163 3 L' (us.length + 1) (flat Un.cells us.reverse ++ [.int .i64 3, .int .i64 (hd : Int), o.val])) (hl' : ∀ b, L'.ownBlock = some b → L.ownBlock = some b ∨ w.heap.size ≤ b)
    (hc3 : Chg (fun b => rv.ownBlock = some b) (w1.setCell ⟨r, 0, none⟩ L') w3) (ho3 : w3.ownsRow 0 3 1 rv' (s.rcy.length + 1) (s.rcy.map natV ++ [natV hd])) (hr' : ∀ b, rv'.ownBlock = some b → rv.ownBlock = some b ∨ w.heap.size ≤ b) :
    StepP m ⟨s.data.set hd RV.nil, s.rcy ++ [hd]⟩ ((.del hd o :: us) :: ls) M D w ((w3.setCell ⟨m, 2, none⟩ rv').setCell ⟨gd, hd, none⟩ (.slice none 0 0)) := by
  have A := h.apart
  have lm := lt_of_heap h.mem
  have lr := lt_of_heap h.roll
  have lg : gd < w.heap.size := own_lt h.data rfl
  have gm : gd ≠ m := fun e => A.dm (by subst e; rfl)
  have gr : gd ≠ r := fun e => A.dr (by subst e; rfl)
  have gL : L.ownBlock ≠ some gd := A.dl gd rfl
  have gR : rv.ownBlock ≠ some gd := A.dc gd rfl
  have s1 := hc1.size
  have s3 := hc3.size
  simp at s3
  have lL : ∀ b, L.ownBlock = some b → b < w.heap.size := fun b hb => own_lt h.list hb
  have lR : ∀ b, rv.ownBlock = some b → b < w.heap.size := fun b hb => own_lt h.rcy hb
  have k1 : Chg (fun b => b = r ∨ L.ownBlock = some b) w (w1.setCell ⟨r, 0, none⟩ L') := Chg.setCell (S := fun b => b = r ∨ L.ownBlock = some b) (hc1.mono (fun b _ h => .inr h)) (p := ⟨r, 0, none⟩) (.inl (.inl rfl)) _
  have k3 : Chg (fun b => b = r ∨ rv.ownBlock = some b ∨ L.ownBlock = some b) w w3 := (k1.mono (fun b _ h => h.elim .inl (fun h => .inr (.inr h)))).next hc3 (fun b _ h => .inr (.inl h))
  have km : Chg (fun b => b = m ∨ b = gd) w3 ((w3.setCell ⟨m, 2, none⟩ rv').setCell ⟨gd, hd, none⟩ (.slice none 0 0)) :=
    Chg.setCell (S := fun b => b = m ∨ b = gd) (Chg.setCell (S := fun b => b = m ∨ b = gd) (Chg.refl _ w3) (p := ⟨m, 2, none⟩) (.inl (.inl rfl)) _) (p := ⟨gd, hd, none⟩) (.inl (.inr rfl)) _
  obtain ⟨W, hW⟩ : ∃ W, W = (w3.setCell ⟨m, 2, none⟩ rv').setCell ⟨gd, hd, none⟩ (.slice none 0 0) := ⟨_, rfl⟩
  rw [← hW] at km ⊢
  have kc : Chg (Top m r (.slice (some ⟨gd, 0, none⟩) n cd) rv L) w W := (k3.mono (fun b _ h => by rcases h with h | h | h; exact .inr (.inl h); exact .inr (.inr (.inr (.inl h))); exact .inr (.inr (.inr (.inr h))))).next km (fun b _ h => by
    rcases h with h | h
    · exact .inl h
    · exact .inr (.inr (.inl (by rw [h]; rfl))))
  have e1 : w3.heap[m]? = w.heap[m]? := k3.block m lm (fun e => by rcases e with e | e | e; exact A.mr e; exact A.rm e; exact A.lm e)
  have er : w3.heap[r]? = some (.cells #[L', p, .int .i64 0] 132 (0, 0)) := (hc3.block r (by simp; omega) (fun e => A.rr e)).trans (set_roll ((hc1.block r lr (fun e => A.lr e)).trans h.roll))
  have hd3 : w3.ownsRow 0 87 1 (.slice (some ⟨gd, 0, none⟩) n cd) n (s.data.map RV.val) := by
    have := own_chg h.data k3 (fun b hb e => by rcases e with e | e | e; exact A.dr (by rw [hb, e]); exact A.dc b hb e; exact A.dl b hb e)
    rw [← hn] at this
    exact this
  have hom : o ∈ s.data := List.mem_of_getElem? ho
  refine top_fin (D' := D) (dv' := .slice (some ⟨gd, 0, none⟩) n cd) (rv' := rv') (L' := L') h hM hoff hD kc ?_ ?_ ?_ ?_ ?_ ?_ ?_ (fun b hb => .inl hb) hr' hl' (fun k hk => hk) (fun k hk => .inl hk)
  · show W.heap[m]? = _
    rw [hW, heap_setCell_ne _ _ _ _ _ (fun e => gm e.symm), heap_setCell_at, e1, h.mem]
    rfl
  · have h0 := ownsRow_setCell_other hd3 (a := ⟨m, 2, none⟩) (fun e => gm (by simpa [Value.ownBlock] using e)) rv'
    have h2 := (h0.stored hd (.slice none 0 0)).1
    rw [hW, List.length_set, List.map_set, ← hn]
    exact h2
  · have h0 := ownsRow_setCell_other ho3 (a := ⟨m, 2, none⟩) (fun e => by
      rcases hr' _ e with h1 | h1
      · exact A.rm h1
      · have : w.heap.size ≤ m := h1
        omega) rv'
    have h2 := ownsRow_setCell_other h0 (a := ⟨gd, hd, none⟩) (fun e => by
      rcases hr' _ e with h1 | h1
      · exact gR h1
      · have : w.heap.size ≤ gd := h1
        omega) (.slice none 0 0)
    rw [hW, List.length_append, List.map_append]
    exact h2
  · intro x hx
    rcases List.mem_or_eq_of_mem_set hx with h1 | rfl
    · exact (h.rows x h1).chg kc hoff
    · exact RV.ok_nil _ _
  · rw [hW, heap_setCell_ne _ _ _ _ _ (fun e => gr e.symm), heap_setCell_ne _ _ _ _ _ (fun e => A.mr e.symm)]
    exact er
  · have h2 := ownsRow_setCell_other ho1 (a := ⟨r, 0, none⟩) (fun e => by
      rcases hl' _ e with h1 | h1
      · exact A.lr h1
      · have : w.heap.size ≤ r := h1
        omega) L'
    have h3 := own_chg h2 hc3 (fun b hb e => by
      rcases hl' _ hb with h1 | h1
      · exact A.cl b e h1
      · have := lR b e; omega)
    have h4 := own_chg h3 km (fun b hb e => by
      rcases hl' _ hb with h1 | h1
      · rcases e with e | e
        · exact A.lm (by rw [h1, e])
        · exact gL (by rw [h1, e])
      · omega)
    rw [flat_snoc]
    exact h4
  · intro u hu
    rcases List.mem_cons.1 hu with rfl | h1
    · exact (h.rows o hom).chg kc hoff
    · exact (h.olds u h1).chg kc hoff

set_option maxRecDepth 100000 in
set_option maxHeartbeats 6400000 in
theorem delete_any {D M : Nat → Prop} {w : World} {m : Nat} {s : MSt RV} {us : List (Un RV)} {ls : List (List (Un RV))} (h : MemX m s (us :: ls) M D w) {hd : Nat} {o : RV} (ho : s.data[hd]? = some o) {C : Option Addr} {cc nc : Nat} (hn : s.data.length ≤ 1000) (hu : us.length ≤ 1000) (hq : s.rcy.length ≤ 1000) :
    Calls Tryz.prog 58 #[.pointer (some ⟨m, 0, none⟩), .int .i64 hd, .slice C nc cc] w (DeleteX m us ls M D ⟨s.data.set hd RV.nil, s.rcy ++ [hd]⟩ (.del hd o) w) := by
  have hlt := (List.getElem?_eq_some_iff.1 ho).1
  obtain ⟨r, dv, rv, p, L, S, hT, hM, hoff, hD⟩ := h.top
  obtain ⟨gd, cd, rfl, _, lgd⟩ := hT.data.form (by omega)
  obtain ⟨A2, c2, rfl⟩ := own_form hT.rcy
  obtain ⟨A3, c3, rfl⟩ := own_form hT.list
  obtain ⟨q, hqq⟩ : ∃ q, q = s.rcy.length := ⟨_, rfl⟩
  obtain ⟨i0, hi0, hz0, hz1, hz2⟩ := info_parts info_int
  obtain ⟨n, hnn⟩ : ∃ n, n = s.data.length := ⟨_, rfl⟩
  obtain ⟨k, hkk⟩ : ∃ k, k = us.length := ⟨_, rfl⟩
  obtain ⟨Ao, no, co, hov⟩ : ∃ Ao no co, o.val = .slice Ao no co := ⟨_, _, _, rfl⟩
  obtain ⟨i1, hi1, hy0, hy1, hy2⟩ := info_parts info_undo
  have AP : TopApart m r (.slice (some ⟨gd, 0, none⟩) n cd) (.slice A2 q c2) (.slice A3 k c3) S := by
    have := hT.apart
    rw [hnn, hkk, hqq]
    exact this
  have lm := lt_of_heap hT.mem
  have lr := lt_of_heap hT.roll
  have hmr : m ≠ r := AP.mr
  have hrm : ¬ r = m := fun h => hmr h.symm
  have gm : ¬ gd = m := fun e => AP.dm (by subst e; rfl)
  have mg : ¬ m = gd := fun e => gm e.symm
  have gr : ¬ gd = r := fun e => AP.dr (by subst e; rfl)
  have rg : ¬ r = gd := fun e => gr e.symm
  have c0 : w.cell? ⟨m, 0, none⟩ = some (.slice (some ⟨gd, 0, none⟩) n cd) := by rw [hnn]; exact cell_of_heap hT.mem 0
  have c2' : w.cell? ⟨m, 2, none⟩ = some (.slice A2 q c2) := by rw [hqq]; exact cell_of_heap hT.mem 2
  have f0 : ∀ o, w.frozen? ⟨m, o, none⟩ = false := free_of_heap hT.mem
  have c4 : w.cell? ⟨m, 4, none⟩ = some (.pointer (some ⟨r, 0, none⟩)) := cell_of_heap hT.mem 4
  have r0 : w.cell? ⟨r, 0, none⟩ = some (.slice A3 k c3) := by rw [hkk]; exact cell_of_heap hT.roll 0
  have fr0 : w.frozen? ⟨r, 0, none⟩ = false := free_of_heap hT.roll 0
  have HT := Lib.hid hT
  have HM := Lib.hid hM
  have HF := Lib.hid hoff
  have HD := Lib.hid hD
  have HAP := Lib.hid AP
  have HN := Lib.hid hnn
  have HK := Lib.hid hkk
  have HOV := Lib.hid hov
  have HO := Lib.hid ho
  have HDA : Hid (w.ownsRow 0 87 1 (.slice (some ⟨gd, 0, none⟩) n cd) n (s.data.map RV.val)) := Lib.hid (by rw [hnn]; exact hT.data)
  have HQ := Lib.hid hqq
  have HQ0 : Hid (w.ownsRow 0 3 1 (.slice A2 q c2) q (s.rcy.map natV)) := Lib.hid (by rw [hqq]; exact hT.rcy)
  have HL0 : Hid (w.ownsRow 0 163 3 (.slice A3 k c3) k (flat Un.cells us.reverse)) := Lib.hid (by rw [hkk]; exact hT.list)
  have hltn : hd < n := by omega
  have hdc : w.cell? ⟨gd, hd, none⟩ = some (.slice Ao no co) := (HDA.out.cellAt hd (by omega)).trans (by rw [List.getElem?_map, ho, Option.map_some, hov])
  have hdf : w.frozen? ⟨gd, hd, none⟩ = false := HDA.out.frozenAt hd
  rw [← hnn] at hn
  rw [← hkk] at hu
  rw [← hqq] at hq
  clear hT hM hoff hD AP hnn hkk hqq h hlt ho hov
  go_enter Tryz.func58, Tryz.ntmps58
  go_wp2_with fail
  go_region_law
    ((refine step_append_lies _ (by rfl) _ _ _ (by rfl) 0 163 i1 _ 3 40 Tryz.underlying130 hi1 hy0 hy1 hy2 rfl (by omega) (.slice A3 k c3) k (flat Un.cells us.reverse) (by rfl) ((HL0.out.alloc _).drew)
        ⟨w.heap.size, 0, none⟩ 1 1 [.int .i64 3, .int .i64 hd, .slice Ao no co] (by rfl) (by rfl) (World.news_of_block (cs := #[.int .i64 3, .int .i64 hd, .slice Ao no co]) (t := 163) (fr := (0, 0)) (heap_alloc_new w _)) (by simp [Value.oneCell'])
        (by omega) (by simp only [maxLen]; omega) (by omega) (Nat.zero_le _) (w.heap.size + 1) (by simp) ?_; intro gg cap w1 hown1 hgrow hat hlt1
      have HG1 : Hid (Chg (fun b => (Value.slice A3 k c3).ownBlock = some b) w w1) := Lib.hid ((((Chg.refl _ w).alloc _).drew).trans ((Chg.of_grown hgrow).mono (fun b _ hb => hb.symm)))
      have E1 : Hid (w1.heap[m]? = w.heap[m]?) := Lib.hid (HG1.out.block m lm (fun e => HAP.out.lm e))
      have E2 : Hid (w1.heap[r]? = w.heap[r]?) := Lib.hid (HG1.out.block r lr (fun e => HAP.out.lr e))
      have r1 : w1.cell? ⟨r, 0, none⟩ = some (.slice A3 k c3) := (World.cell?_of_block E2.out).trans r0
      have fr1 : w1.frozen? ⟨r, 0, none⟩ = false := (World.frozen?_of_block E2.out).trans fr0
      have HO1 := Lib.hid hown1
      have HAT1 := Lib.hid hat
      clear hown1 hgrow hat))
  all_goals
    obtain ⟨w2, hw2⟩ : ∃ w2, w2 = w1.setCell ⟨r, 0, none⟩ (.slice (some ⟨gg, 0, none⟩) (k + 1) cap) := ⟨_, rfl⟩
    rw [← hw2]
    have hs2 : w2.heap.size = w1.heap.size := by rw [hw2]; simp
    have hs1 := HG1.out.size
    have k2 : Chg (fun b => b = r ∨ (Value.slice A3 k c3).ownBlock = some b) w w2 := hw2 ▸ Chg.setCell (S := fun b => b = r ∨ (Value.slice A3 k c3).ownBlock = some b) (HG1.out.mono (fun b _ h => .inr h)) (p := ⟨r, 0, none⟩) (.inl (.inl rfl)) _
    have E3 : Hid (w2.heap[m]? = w.heap[m]?) := Lib.hid (k2.block m lm (fun e => e.elim (fun e => hmr e) (fun e => HAP.out.lm e)))
    have E4 : Hid (w2.heap[gd]? = w.heap[gd]?) := Lib.hid (k2.block gd lgd (fun e => e.elim (fun e => gr e) (fun e => HAP.out.dl gd rfl e)))
    have d0 : w2.cell? ⟨m, 0, none⟩ = some (.slice (some ⟨gd, 0, none⟩) n cd) := (World.cell?_of_block E3.out).trans c0
    have d1 : w2.cell? ⟨gd, hd, none⟩ = some (.slice Ao no co) := (World.cell?_of_block E4.out).trans hdc
    have d2 : w2.frozen? ⟨gd, hd, none⟩ = false := (World.frozen?_of_block E4.out).trans hdf
    have lm2 : m < w2.heap.size := by omega
    have lg2 : gd < w2.heap.size := by omega
    have HW2 := Lib.hid hw2
    have HS2 := Lib.hid hs2
    have HK2 := Lib.hid k2
    have d6 : w2.cell? ⟨m, 2, none⟩ = some (.slice A2 q c2) := (World.cell?_of_block E3.out).trans c2'
    have d7 : w2.frozen? ⟨m, 2, none⟩ = false := (World.frozen?_of_block E3.out).trans (f0 2)
    have HQ2 : Hid (w2.ownsRow 0 3 1 (.slice A2 q c2) q (s.rcy.map natV)) := Lib.hid (own_chg HQ0.out k2 (fun b hb e => by rcases e with e | e; exact HAP.out.rr (by rw [hb, e]); exact HAP.out.cl b hb e))
    clear hw2 hs2 k2 hs1 r1 fr1 f0
    go_wp2_with (at_builtin
                 refine wpList_append_lies _ rfl (.tmp 34) (.tmp 36) _ rfl 0 3 i0 _ 1 8 Tryz.underlying110 hi0 hz0 hz1 hz2 rfl (by omega) (.slice A2 q c2) q (s.rcy.map natV) rfl (HQ2.out.alloc _)
                   ⟨w2.heap.size, 0, none⟩ 1 1 [.int .i64 hd] rfl rfl (World.news_of_block (cs := #[.int .i64 hd]) (t := 3) (fr := (0, 0)) (heap_new w2 _)) (by simp [Value.oneCell'])
                   (by omega) (by simp only [maxLen]; omega) (by omega) (Nat.zero_le _) (w2.heap.size + 1) (by simp) ?_
                 intro g3 cap3 w3 hown3 hgrow3 hat3 hlt3
                 have HG3 : Hid (Chg (fun b => (Value.slice A2 q c2).ownBlock = some b) w2 w3) := Lib.hid (((Chg.refl _ w2).alloc _).trans ((Chg.of_grown hgrow3).mono (fun b _ hb => hb.symm)))
                 have E5 : Hid (w3.heap[m]? = w2.heap[m]?) := Lib.hid (HG3.out.block m lm2 (fun e => HAP.out.rm e))
                 have E6 : Hid (w3.heap[gd]? = w2.heap[gd]?) := Lib.hid (HG3.out.block gd lg2 (fun e => HAP.out.dc gd rfl e))
                 have x0 : w3.cell? ⟨m, 0, none⟩ = some (.slice (some ⟨gd, 0, none⟩) n cd) := (World.cell?_of_block E5.out).trans d0
                 have x2 : w3.cell? ⟨m, 2, none⟩ = some (.slice A2 q c2) := (World.cell?_of_block E5.out).trans d6
                 have x3 : w3.frozen? ⟨m, 2, none⟩ = false := (World.frozen?_of_block E5.out).trans d7
                 have x4 : w3.cell? ⟨gd, hd, none⟩ = some (.slice Ao no co) := (World.cell?_of_block E6.out).trans d1
                 have x5 : w3.frozen? ⟨gd, hd, none⟩ = false := (World.frozen?_of_block E6.out).trans d2
                 have HO3 := Lib.hid hown3
                 have HAT3 := Lib.hid hat3
                 clear hgrow3 hown3 hat3)
    go_ret
    have hn' := HN.out
    have hk' := HK.out
    have hq' := HQ.out
    have hB := blk_of (N := us.length + 1) (C := cap) HAT1.out
    have hQ := blk_of (N := s.rcy.length + 1) (C := cap3) HAT3.out
    rw [HS2.out] at hQ
    have hc3 := HG3.out
    rw [HW2.out] at hc3
    have hT := HT.out
    have hM := HM.out
    have hF := HF.out
    have hs1 := HG1.out.size
    subst hk'
    subst hq'
    rw [← hn'] at hT hM hF
    have hO1 := HO1.out
    rw [← HOV.out] at hO1
    exact ⟨rfl, del_fin hT hM hF HD.out hn' HO.out HG1.out hO1 hB hc3 HO3.out (fun b hb => (hQ b hb).imp id (fun h => by omega))⟩

end Go.Proofs.YtffgkocokkhahaaGreatDoor

/- (*mem).BeginTransaction, (*mem).Commit. -/
namespace Go.Proofs.YtffgkocokkhahaaGreatDoor
open Go.RowKit

section
variable {P : Program}
/-- append as one step of a region that draws its order. -/
theorem step_append_any {ops : Array Oper} {o : Oper} {a : Act} {w : World} {K : Act → World → Prop} {Q : Exit → Act → World → Prop} {E : Prop} (hgd : o.guard = none) (s x : Operand) (t : TypeId)
    (ho : o.op = .call { callee := .builtin .append, args := #[s, x], argTypes := #[t, t] })
    (base : Nat) (e : TypeId) (i : TypeInfo) (z : Value) (size bytes : Nat) (ht : P.underlying t = some (.slice e)) (hi : P.info? e = some i) (hz : i.zero = some z)
    (hsize : i.size = size) (hby : i.bytes = bytes) (hzs : z.cells.size = size) (hsz : 0 < size)
    (v : Value) (n : Nat) (xs : List Value) (hs : a.eval s = v) (hown : w.ownsRow base e size v n xs)
    (B : Nat) (A : Option Addr) (m c : Nat) (news : List Value) (hx : a.eval x = .slice A m c) (hr : Reads w B size A m news) (h1 : ∀ u ∈ news, u.oneCell' = true)
    (h63 : n + m ≤ maxLen) (hbytes : (n + m) * bytes ≤ 140737488355328) (hbase : base ≤ w.heap.size)
    (h : ∀ v' w', w'.ownsRow base e size v' (n + m) (xs ++ news) → w.grownBy w' v.ownBlock → (v'.ownBlock = v.ownBlock ∨ v'.ownBlock = some w.heap.size) → K (a.put o.dst v') w') :
    if Region.wanted o (yielded ops a.tmps) = true then Oper.wp P o a w K Q else E := by
  have hw : Region.wanted o (yielded ops a.tmps) = true := by simp [Region.wanted, hgd]
  rw [if_pos hw]
  exact wp_append_any w s x t ho base e i z size bytes ht hi hz hsize hby hzs hsz v n xs hs hown B A m c news hx hr h1 h63 hbytes hbase h
end

variable {D M S : Nat → Prop} {w W : World} {m r : Nat} {s : MSt RV} {us vs : List (Un RV)} {ls : List (List (Un RV))} {dv rv p L : Value}

theorem Lev.ptr {D S : Nat → Prop} {w : World} {p : Value} {ls : List (List (Un RV))} (h : Lev D w p ls S) : ∃ a, p = .pointer a := by
  cases h with
  | nil => exact ⟨none, rfl⟩
  | cons => exact ⟨_, rfl⟩

def DoneX (m : Nat) (s : MSt RV) (ls : List (List (Un RV))) (M D : Nat → Prop) (w : World) (y : Ending) (w' : World) : Prop := y = .returned .nilIface ∧ StepP m s ls M D w w'

theorem MemAt.apart (h : MemAt D w m s ls dv rv p S) : dv.ownBlock ≠ some m ∧ rv.ownBlock ≠ some m ∧ ¬ S m ∧ (∀ b, dv.ownBlock = some b → rv.ownBlock ≠ some b) :=
  ⟨own_ne h.data h.mem (by decide), own_ne h.rcy h.mem (by decide), h.lev.ne h.mem (by decide) (by decide), fun b hb => own_apart h.data h.rcy (by decide) hb⟩

set_option maxRecDepth 100000 in
set_option maxHeartbeats 1600000 in
theorem begin_x (h : MemX m s ls M D w) (hl : ls.length ≤ 100) :
    Calls Tryz.prog 35 #[.pointer (some ⟨m, 0, none⟩)] w (DoneX m s ([] :: ls) M D w) := by
  obtain ⟨dv, rv, p, S, hA, hM⟩ := h.ex
  have hdat := h.dat
  obtain ⟨a0, rfl⟩ := hA.lev.ptr
  obtain ⟨t, ht⟩ : ∃ t, t = ls.length := ⟨_, rfl⟩
  have c1 : w.cell? ⟨m, 1, none⟩ = some (.int .i64 0) := cell_of_heap hA.mem 1
  have c3 : w.cell? ⟨m, 3, none⟩ = some (.int .i64 t) := by rw [ht]; exact cell_of_heap hA.mem 3
  have c4 : w.cell? ⟨m, 4, none⟩ = some (.pointer a0) := cell_of_heap hA.mem 4
  have f3 : w.frozen? ⟨m, 3, none⟩ = false := free_of_heap hA.mem 3
  have f4 : w.frozen? ⟨m, 4, none⟩ = false := free_of_heap hA.mem 4
  have lm := lt_of_heap hA.mem
  have hw1 : IntKind.i64.wrap ((t : Int) + 1) = ((t + 1 : Nat) : Int) := by rw [IntWalk.i64_in _ (by omega)]; rfl
  have HA := Lib.hid hA
  have HM := Lib.hid hM
  have HD := Lib.hid hdat
  have HT := Lib.hid ht
  rw [← ht] at hl
  clear hA hM hdat ht h
  go_enter Tryz.func35, Tryz.ntmps35
  go_wp2
  go_region
  go_wp2
  go_ret
  have hA := HA.out
  obtain ⟨n1, n2, n3, n4⟩ := hA.apart
  have hD := HD.out
  have ht := HT.out
  subst ht
  obtain ⟨W, hW⟩ : ∃ W, W = ((((w.setCell ⟨m, 4, none⟩ (.pointer (some ⟨w.heap.size, 0, none⟩))).setCell ⟨m, 3, none⟩ (.int .i64 ((ls.length + 1 : Nat) : Int))).alloc (.cells #[.slice none 0 0, .pointer a0, .int .i64 0] 132)).drew) := ⟨_, rfl⟩
  have hk : Chg (fun b => b = m) w W := hW ▸ ((Chg.setCell (Chg.setCell (Chg.refl (fun b => b = m) w) (p := ⟨m, _, none⟩) (.inl rfl) _) (p := ⟨m, _, none⟩) (.inl rfl) _).alloc _).drew
  have hr : W.heap[w.heap.size]? = some (.cells #[.slice none 0 0, .pointer a0, .int .i64 0] 132 (0, 0)) := by
    have := heap_new ((w.setCell ⟨m, 4, none⟩ (.pointer (some ⟨w.heap.size, 0, none⟩))).setCell ⟨m, 3, none⟩ (.int .i64 ((ls.length + 1 : Nat) : Int))) (.cells #[.slice none 0 0, .pointer a0, .int .i64 0] 132)
    rw [hW, heap_drew]
    simpa using this
  have hm : MemL W m dv rv (ls.length + 1) (ptr w.heap.size) := by
    show W.heap[m]? = _
    rw [hW, heap_drew, heap_alloc_ne _ _ _ (by simpa using lm), heap_setCell_at, heap_setCell_at, hA.mem]
    rfl
  have hDm : ∀ k, D k → ¬ k = m := fun k hk e => (hD k hk).2 ((HM.out k).2 (.inl e))
  refine ⟨rfl, ?_⟩
  show StepP m s ([] :: ls) M D w _
  have goal : StepP m s ([] :: ls) M D w W := by
    refine ⟨Mset m dv rv (fun k => k = w.heap.size ∨ (Value.slice none 0 0).ownBlock = some k ∨ S k), D, ⟨⟨dv, rv, _, _, ⟨hm, own_chg hA.data hk (fun b hb e => n1 (by rw [hb, e])), own_chg hA.rcy hk (fun b hb e => n2 (by rw [hb, e])), fun x hx => (hA.rows x hx).chg hk hDm, .cons hr (World.ownsRow_nil _ _ _ _) (fun u hu => by cases hu) (hA.lev.chg hk (fun k hk e => n3 (e ▸ hk)) hDm) (fun h => absurd (hA.lev.lt _ h) (Nat.lt_irrefl _)) (fun b hb => by simp [Value.ownBlock] at hb)⟩, fun _ => Iff.rfl⟩, fun k hk' => ?_⟩, hk.mono (fun k _ e => (HM.out k).2 (.inl e)), fun k h => h, fun k hk => ?_, fun k hk => .inl hk⟩
    · have := hD k hk'
      refine ⟨Nat.lt_of_lt_of_le this.1 hk.size, fun h => ?_⟩
      rcases h with h | h | h | h | h | h
      · exact this.2 ((HM.out k).2 (.inl h))
      · exact this.2 ((HM.out k).2 (.inr (.inl h)))
      · exact this.2 ((HM.out k).2 (.inr (.inr (.inl h))))
      · omega
      · simp [Value.ownBlock] at h
      · exact this.2 ((HM.out k).2 (.inr (.inr (.inr h))))
    · rcases hk with h | h | h | h | h | h
      · exact .inl ((HM.out k).2 (.inl h))
      · exact .inl ((HM.out k).2 (.inr (.inl h)))
      · exact .inl ((HM.out k).2 (.inr (.inr (.inl h))))
      · exact .inr (by omega)
      · simp [Value.ownBlock] at h
      · exact .inl ((HM.out k).2 (.inr (.inr (.inr h))))
  rw [hW] at goal
  simpa using goal

set_option maxRecDepth 100000 in
set_option maxHeartbeats 1600000 in
theorem commit_none (h : MemX m s [] M D w) {E : Value} (hE : w.cell? ⟨1, 0, none⟩ = some E) (hi : ∃ t v, E = .iface t v) :
    Calls Tryz.prog 52 #[.pointer (some ⟨m, 0, none⟩)] w fun y w' => y = .returned E ∧ w' = w := by
  obtain ⟨dv, rv, p, S, hA, hM⟩ := h.ex
  have c3 : w.cell? ⟨m, 3, none⟩ = some (.int .i64 0) := cell_of_heap hA.mem 3
  obtain ⟨t, v, rfl⟩ := hi
  clear h hA hM
  go_enter Tryz.func52, Tryz.ntmps52
  go_wp2
  go_ret
  exact ⟨rfl, rfl⟩

set_option maxRecDepth 100000 in
set_option maxHeartbeats 1600000 in
theorem rollback_none (h : MemX m s [] M D w) {E : Value} (hE : w.cell? ⟨2, 0, none⟩ = some E) (hi : ∃ t v, E = .iface t v) :
    Calls Tryz.prog 53 #[.pointer (some ⟨m, 0, none⟩)] w fun y w' => y = .returned E ∧ w' = w := by
  obtain ⟨dv, rv, p, S, hA, hM⟩ := h.ex
  have c3 : w.cell? ⟨m, 3, none⟩ = some (.int .i64 0) := cell_of_heap hA.mem 3
  obtain ⟨t, v, rfl⟩ := hi
  clear h hA hM
  go_enter Tryz.func53, Tryz.ntmps53
  go_wp2
  go_ret
  exact ⟨rfl, rfl⟩

end Go.Proofs.YtffgkocokkhahaaGreatDoor

/- (*mem).Commit of a level. -/
namespace Go.Proofs.YtffgkocokkhahaaGreatDoor
open Go.RowKit

variable {D M : Nat → Prop} {w W : World} {m : Nat} {s : MSt RV} {us vs : List (Un RV)} {ls : List (List (Un RV))}

set_option maxRecDepth 100000 in
set_option maxHeartbeats 1600000 in
theorem commit_one (h : MemX m s [us] M D w) :
    Calls Tryz.prog 52 #[.pointer (some ⟨m, 0, none⟩)] w (DoneX m s [] M D w) := by
  obtain ⟨r, dv, rv, p, L, S, hT, hM, hoff, hD⟩ := h.top
  have hlev := hT.lev
  cases hlev with
  | nil =>
  have AP := hT.apart
  have hmr : m ≠ r := AP.mr
  have hrm : ¬ r = m := fun e => hmr e.symm
  have c3 : w.cell? ⟨m, 3, none⟩ = some (.int .i64 1) := cell_of_heap hT.mem 3
  have c4 : w.cell? ⟨m, 4, none⟩ = some (.pointer (some ⟨r, 0, none⟩)) := cell_of_heap hT.mem 4
  have f3 : w.frozen? ⟨m, 3, none⟩ = false := free_of_heap hT.mem 3
  have f4 : w.frozen? ⟨m, 4, none⟩ = false := free_of_heap hT.mem 4
  have r1 : w.cell? ⟨r, 1, none⟩ = some (.pointer none) := cell_of_heap hT.roll 1
  have lr := lt_of_heap hT.roll
  have lm := lt_of_heap hT.mem
  have HT := Lib.hid hT
  have HM := Lib.hid hM
  have HF := Lib.hid hoff
  have HD := Lib.hid hD
  have HAP := Lib.hid AP
  clear hT hM hoff hD AP h
  go_enter Tryz.func52, Tryz.ntmps52
  go_wp2
  go_ret
  refine ⟨rfl, ?_⟩
  have hT := HT.out
  have A := HAP.out
  have hoff := HF.out
  obtain ⟨W, hW⟩ : ∃ W, W = (w.setCell ⟨m, 3, none⟩ (.int .i64 0)).setCell ⟨m, 4, none⟩ (.pointer none) := ⟨_, rfl⟩
  rw [← hW]
  have hk : Chg (fun b => b = m) w W := hW ▸ Chg.setCell (Chg.setCell (Chg.refl (fun b => b = m) w) (p := ⟨m, _, none⟩) (.inl rfl) _) (p := ⟨m, _, none⟩) (.inl rfl) _
  have hDm : ∀ k, D k → ¬ k = m := fun k hk e => hoff k hk (.inl e)
  have hm : MemL W m dv rv 0 (.pointer none) := by
    show W.heap[m]? = _
    rw [hW, heap_setCell_at, heap_setCell_at, hT.mem]
    rfl
  have up : ∀ k, Mset m dv rv (fun _ => False) k → M k := fun k hk => (HM.out k).2 (.inl (by
    rcases hk with h | h | h | h
    · exact .inl h
    · exact .inr (.inr (.inl h))
    · exact .inr (.inr (.inr (.inl h)))
    · exact h.elim))
  refine ⟨Mset m dv rv (fun _ => False), D, ⟨⟨dv, rv, _, _, ⟨hm, own_chg hT.data hk (fun b hb e => A.dm (by rw [hb, e])), own_chg hT.rcy hk (fun b hb e => A.rm (by rw [hb, e])), fun x hx => (hT.rows x hx).chg hk hDm, .nil⟩, fun _ => Iff.rfl⟩, fun k hk' => ?_⟩, hk.mono (fun k _ e => (HM.out k).2 (.inl (.inl e))), fun k h => h, fun k hk => .inl (up k hk), fun k hk => .inl hk⟩
  have := HD.out k hk'
  exact ⟨Nat.lt_of_lt_of_le this.1 hk.size, fun h => ((HM.out k).1 (up k h)).elim (hoff k hk') this.2⟩

end Go.Proofs.YtffgkocokkhahaaGreatDoor

/- (*mem).Commit of a level in a level: what is left. -/
namespace Go.Proofs.YtffgkocokkhahaaGreatDoor
open Go.RowKit

variable {D M : Nat → Prop} {w W : World} {m : Nat} {s : MSt RV} {us vs : List (Un RV)} {ls : List (List (Un RV))}

theorem commit_fin {S : Nat → Prop} {r r2 : Nat} {dv rv p2 L L2 L2' : Value} {wa w3 : World} (hT : MemT D w m r s us (vs :: ls) dv rv (ptr r2) L (fun k => k = r2 ∨ L2.ownBlock = some k ∨ S k)) (hM : ∀ k, M k ↔ (Top m r dv rv L k ∨ (k = r2 ∨ L2.ownBlock = some k ∨ S k))) (hoff : OffTop D m r dv rv L) (hD : ∀ k, D k → k < w.heap.size ∧ ¬ (k = r2 ∨ L2.ownBlock = some k ∨ S k))
    (hr2 : w.heap[r2]? = some (.cells #[L2, p2, .int .i64 0] 132 (0, 0))) (ho2 : w.ownsRow 0 163 3 L2 vs.length (flat Un.cells vs.reverse)) (hu2 : ∀ u ∈ vs, (u.row RV.nil).ok D w) (hlev : Lev D w p2 ls S) (h1 : ¬ S r2) (h2 : ∀ b, L2.ownBlock = some b → ¬ S b)
    (hka : Chg (fun b => b = m) w wa) (hma : MemL wa m dv rv (ls.length + 1) (ptr r2)) (hc3 : Chg (fun b => L2.ownBlock = some b) wa w3)
    (ho3 : w3.ownsRow 0 163 3 L2' (vs.length + us.length) (flat Un.cells vs.reverse ++ flat Un.cells us.reverse)) (hl' : ∀ b, L2'.ownBlock = some b → L2.ownBlock = some b ∨ w.heap.size ≤ b) :
    StepP m s ((us ++ vs) :: ls) M D w (w3.setCell ⟨r2, 0, none⟩ L2') := by
  have A := hT.apart
  have lm := lt_of_heap hT.mem
  have lr2 := lt_of_heap hr2
  have e0 := hka.size
  have hm2 : m ≠ r2 := fun e => A.sm (.inl e)
  have hlm : L2.ownBlock ≠ some m := fun e => A.sm (.inr (.inl e))
  have hlr : L2.ownBlock ≠ some r2 := own_ne ho2 hr2 (by decide)
  have k3 : Chg (fun b => b = m ∨ L2.ownBlock = some b) w w3 := (hka.mono (fun b _ h => .inl h)).next hc3 (fun b _ h => .inr h)
  obtain ⟨W, hW⟩ : ∃ W, W = w3.setCell ⟨r2, 0, none⟩ L2' := ⟨_, rfl⟩
  rw [← hW]
  have kW : Chg (fun b => b = m ∨ b = r2 ∨ L2.ownBlock = some b) w W := hW ▸ Chg.setCell (S := fun b => b = m ∨ b = r2 ∨ L2.ownBlock = some b) (k3.mono (fun b _ h => h.elim .inl (fun h => .inr (.inr h)))) (p := ⟨r2, 0, none⟩) (.inl (.inr (.inl rfl))) _
  have hDT : ∀ k, D k → ¬ (k = m ∨ k = r2 ∨ L2.ownBlock = some k) := fun k hk h => by
    rcases h with h | h | h
    · exact hoff k hk (.inl h)
    · exact (hD k hk).2 (.inl h)
    · exact (hD k hk).2 (.inr (.inl h))
  have hST : ∀ k, S k → ¬ (k = m ∨ k = r2 ∨ L2.ownBlock = some k) := fun k hk h => by
    rcases h with rfl | rfl | h
    · exact A.sm (.inr (.inr hk))
    · exact h1 hk
    · exact h2 k h hk
  have hm3 : MemL W m dv rv (ls.length + 1) (ptr r2) := by
    show W.heap[m]? = _
    rw [hW, heap_setCell_ne _ _ _ _ _ hm2]
    exact (hc3.block m (by omega) (fun e => hlm e)).trans hma
  have hr3 : W.heap[r2]? = some (.cells #[L2', p2, .int .i64 0] 132 (0, 0)) := by
    rw [hW]
    exact set_roll ((hc3.block r2 (by omega) (fun e => hlr e)).trans ((hka.block r2 lr2 (fun e => hm2 e.symm)).trans hr2))
  have hlist : W.ownsRow 0 163 3 L2' (us ++ vs).length (flat Un.cells (us ++ vs).reverse) := by
    have := ownsRow_setCell_other ho3 (a := ⟨r2, 0, none⟩) (fun e => by
      rcases hl' _ e with h1 | h1
      · exact hlr h1
      · have : w.heap.size ≤ r2 := h1
        omega) L2'
    rw [hW, List.reverse_append, flat_append, List.length_append, Nat.add_comm]
    exact this
  have hd : ∀ b, dv.ownBlock = some b → ¬ (b = m ∨ b = r2 ∨ L2.ownBlock = some b) := fun b hb h => by
    rcases h with rfl | h | h
    · exact A.dm hb
    · exact A.sd b hb (.inl h)
    · exact A.sd b hb (.inr (.inl h))
  have hrv : ∀ b, rv.ownBlock = some b → ¬ (b = m ∨ b = r2 ∨ L2.ownBlock = some b) := fun b hb h => by
    rcases h with rfl | h | h
    · exact A.rm hb
    · exact A.sc b hb (.inl h)
    · exact A.sc b hb (.inr (.inl h))
  have up : ∀ k, Mset m dv rv (fun k => k = r2 ∨ L2'.ownBlock = some k ∨ S k) k → M k ∨ w.heap.size ≤ k := fun k hk => by
    rcases hk with h | h | h | h | h | h
    · exact .inl ((hM k).2 (.inl (.inl h)))
    · exact .inl ((hM k).2 (.inl (.inr (.inr (.inl h)))))
    · exact .inl ((hM k).2 (.inl (.inr (.inr (.inr (.inl h))))))
    · exact .inl ((hM k).2 (.inr (.inl h)))
    · exact (hl' k h).imp (fun h => (hM k).2 (.inr (.inr (.inl h)))) id
    · exact .inl ((hM k).2 (.inr (.inr (.inr h))))
  refine ⟨Mset m dv rv (fun k => k = r2 ∨ L2'.ownBlock = some k ∨ S k), D, ⟨⟨dv, rv, _, _, ⟨hm3, own_chg hT.data kW hd, own_chg hT.rcy kW hrv, fun x hx => (hT.rows x hx).chg kW hDT, .cons hr3 hlist (fun u hu => ?_) (hlev.chg kW hST hDT) h1 (fun b hb hs => ?_)⟩, fun _ => Iff.rfl⟩, fun k hk' => ?_⟩, kW.mono (fun k _ e => (hM k).2 (by rcases e with e | e | e; exact .inl (.inl e); exact .inr (.inl e); exact .inr (.inr (.inl e)))), fun k h => h, up, fun k hk => .inl hk⟩
  · rcases List.mem_append.1 hu with h | h
    · exact (hT.olds u h).chg kW hDT
    · exact (hu2 u h).chg kW hDT
  · rcases hl' b hb with h | h
    · exact h2 b h hs
    · have := hlev.lt b hs
      omega
  · have := hD k hk'
    refine ⟨Nat.lt_of_lt_of_le this.1 kW.size, fun h => ?_⟩
    rcases up k h with h | h
    · exact ((hM k).1 h).elim (hoff k hk') this.2
    · omega

end Go.Proofs.YtffgkocokkhahaaGreatDoor
