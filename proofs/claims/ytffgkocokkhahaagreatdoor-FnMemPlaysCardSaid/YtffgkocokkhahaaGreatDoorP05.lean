/-
  A memory store's deeds (plain): what is told, what the store is behind them, and what a law keeps of it. || impl.outs of a store's row: a blob of no bytes may be nil. || (*mem).Rollback: what holds while undos are taken back, and behind it. || (*mem).Rollback. || The library's read lock, as this program has it. || (*mem).Read. || A new memory store: newMemStorage, ZZNewMem. || impl.indexWalk. || Deeds to a memory store and their answers, in memory. || Numbers that a law's walk needs.
-/
import Derived.Test.YtffgkocokkhahaaGreatDoorP03
import Derived.Test.YtffgkocokkhahaaGreatDoorMa
import Derived.Test.YtffgkocokkhahaaGreatDoorP02
import Derived.BigQuiet
import Derived.Conc.RwLone
import Derived.KernelRfl
import Derived.Deep.RegionHeld3
import Derived.Test.YtffgkocokkhahaaGreatDoorXda
import Derived.Test.YtffgkocokkhahaaGreatDoorP01

/- A memory store's deeds (plain): what is told, what the store is behind them, and what a law keeps of it. -/
namespace Go.Proofs.YtffgkocokkhahaaGreatDoor

/-- A deed. -/
inductive MD (L : Type) where
  | begin
  | commit
  | rollback
  | create (l : L)
  | update (h : Nat) (l : L)
  | delete (h : Nat)
  | read (h : Nat)

/-- An answer. -/
structure MAn (L : Type) where
  err : Nat
  h : Nat
  row : L

abbrev MC (L : Type) := MSt L × List (MSt L)

section
variable {R L : Type}

def MSt.to (f : R → L) (s : MSt R) : MSt L := ⟨s.data.map f, s.rcy⟩

def live (s : MSt L) (h : Nat) : Prop := 2 ≤ h ∧ h < s.data.length ∧ h ∉ s.rcy

def okD (c : MC L) : MD L → Prop
  | .create _ => c.2 ≠ []
  | .update h _ => c.2 ≠ [] ∧ live c.1 h
  | .delete h => c.2 ≠ [] ∧ live c.1 h
  | .read h => live c.1 h
  | _ => True

def made (s : MSt L) (l : L) : MSt L :=
  match s.rcy.getLast? with
  | none => ⟨s.data ++ [l], s.rcy⟩
  | some h => ⟨s.data.set h l, s.rcy.dropLast⟩

def madeAt (s : MSt L) : Nat := s.rcy.getLast?.getD s.data.length

def nxt (z : L) (c : MC L) : MD L → MC L
  | .begin => (c.1, c.1 :: c.2)
  | .commit => (c.1, c.2.tail)
  | .rollback => (c.2.head?.getD c.1, c.2.tail)
  | .create l => (made c.1 l, c.2)
  | .update h l => (⟨c.1.data.set h l, c.1.rcy⟩, c.2)
  | .delete h => (⟨c.1.data.set h z, c.1.rcy ++ [h]⟩, c.2)
  | .read _ => c

def ans (z : L) (c : MC L) : MD L → MAn L
  | .commit => ⟨if c.2.isEmpty then 1 else 0, 0, z⟩
  | .rollback => ⟨if c.2.isEmpty then 1 else 0, 0, z⟩
  | .create _ => ⟨0, madeAt c.1, z⟩
  | .read h => ⟨0, 0, c.1.data[h]?.getD z⟩
  | _ => ⟨0, 0, z⟩

/-- What deeds lead to. -/
def runM (z : L) (c : MC L) (ds : List (MD L)) : MC L := ds.foldl (nxt z) c
def okM (z : L) : MC L → List (MD L) → Prop
  | _, [] => True
  | c, d :: ds => okD c d ∧ okM z (nxt z c d) ds
def ansM (z : L) : MC L → List (MD L) → List (MAn L)
  | _, [] => []
  | c, d :: ds => ans z c d :: ansM z (nxt z c d) ds

theorem runM_snoc (z : L) (c : MC L) (ds : List (MD L)) (d : MD L) : runM z c (ds ++ [d]) = nxt z (runM z c ds) d := by simp [runM]
theorem okM_snoc (z : L) : ∀ (ds : List (MD L)) (c : MC L) (d : MD L), okM z c ds → okD (runM z c ds) d → okM z c (ds ++ [d])
  | [], _, _, _, h => ⟨h, trivial⟩
  | _ :: ds, _, _, h, h2 => ⟨h.1, okM_snoc z ds _ _ h.2 h2⟩
theorem okM_at (z : L) : ∀ (ds : List (MD L)) (c : MC L) (k : Nat) (d : MD L), okM z c ds → ds[k]? = some d → okD (runM z c (ds.take k)) d
  | [], _, _, _, _, h => by simp at h
  | x :: ds, _, 0, d, h, hx => by
    simp at hx
    subst hx
    exact h.1
  | x :: ds, _, k + 1, d, h, hx => okM_at z ds _ k d h.2 (by simpa using hx)
theorem ansM_snoc (z : L) : ∀ (ds : List (MD L)) (c : MC L) (d : MD L), ansM z c (ds ++ [d]) = ansM z c ds ++ [ans z (runM z c ds) d]
  | [], _, _ => rfl
  | x :: ds, c, d => by simp [ansM, ansM_snoc z ds, runM]
theorem ansM_length (z : L) : ∀ (ds : List (MD L)) (c : MC L), (ansM z c ds).length = ds.length
  | [], _ => rfl
  | x :: ds, c => by simp [ansM, ansM_length z ds]

/-! ### The store in memory and the plain one -/

structure Bd (n : Nat) (s : MSt R) : Prop where
  d : s.data.length ≤ n + 2
  r : s.rcy.length ≤ n
theorem Bd.mono {n k : Nat} {s : MSt R} (h : Bd n s) (hk : n ≤ k) : Bd k s := ⟨by have := h.d; omega, by have := h.r; omega⟩

structure Sim (z : R) (f : R → L) (n : Nat) (s : MSt R) (ls : List (List (Un R))) (c : MC L) : Prop where
  good : Good z s
  bd : Bd n s
  back : ∃ ss, Back z s ls ss ∧ (∀ t ∈ ss, Good z t ∧ Bd n t) ∧ ss.map (MSt.to f) = c.2
  cur : s.to f = c.1
  len : ls.length ≤ n
  sum : (ls.map List.length).sum ≤ n

variable {z : R} {f : R → L} {n : Nat} {s : MSt R} {us vs : List (Un R)} {ls : List (List (Un R))} {c : MC L}

theorem Sim.mono {k : Nat} (h : Sim z f n s ls c) (hk : n ≤ k) : Sim z f k s ls c := by
  obtain ⟨ss, h1, h2, h3⟩ := h.back
  exact ⟨h.good, h.bd.mono hk, ⟨ss, h1, fun t ht => ⟨(h2 t ht).1, (h2 t ht).2.mono hk⟩, h3⟩, h.cur, Nat.le_trans h.len hk, Nat.le_trans h.sum hk⟩

theorem Sim.none (h : Sim z f n s [] c) : c.2 = [] := by
  obtain ⟨ss, h1, _, h3⟩ := h.back
  have : ss = [] := h1
  rw [← h3, this]
  rfl
theorem Sim.some (h : Sim z f n s (us :: ls) c) : c.2 ≠ [] := by
  obtain ⟨ss, h1, _, h3⟩ := h.back
  obtain ⟨t, ts, rfl, _⟩ := h1
  rw [← h3]
  simp

theorem Sim.begin (h : Sim z f n s ls c) : Sim z f (n + 1) s ([] :: ls) (c.1, c.1 :: c.2) := by
  obtain ⟨ss, h1, h2, h3⟩ := h.back
  refine ⟨h.good, h.bd.mono (by omega), ⟨s :: ss, h1.begin, fun t ht => ?_, by simp [h3, h.cur]⟩, h.cur, by have := h.len; simp; omega, by have := h.sum; simp; omega⟩
  rcases List.mem_cons.1 ht with rfl | ht
  · exact ⟨h.good, h.bd.mono (by omega)⟩
  · exact ⟨(h2 t ht).1, (h2 t ht).2.mono (by omega)⟩

theorem Sim.commit1 (h : Sim z f n s [us] c) : Sim z f n s [] (c.1, c.2.tail) := by
  obtain ⟨ss, h1, h2, h3⟩ := h.back
  obtain ⟨t, ts, rfl, _, _, h4⟩ := h1
  have : ts = [] := h4
  subst this
  exact ⟨h.good, h.bd, ⟨[], rfl, fun t ht => (by cases ht), by rw [← h3]; rfl⟩, h.cur, Nat.zero_le _, Nat.zero_le _⟩

theorem Sim.commit2 (h : Sim z f n s (us :: vs :: ls) c) : Sim z f n s ((us ++ vs) :: ls) (c.1, c.2.tail) := by
  obtain ⟨ss, h1, h2, h3⟩ := h.back
  refine ⟨h.good, h.bd, ⟨ss.tail, h1.commit, fun t ht => h2 t (List.mem_of_mem_tail ht), by rw [← h3]; simp⟩, h.cur, ?_, ?_⟩
  · have := h.len
    simp at this ⊢
    omega
  · have := h.sum
    simp at this ⊢
    omega

theorem Sim.back1 (h : Sim z f n s (us :: ls) c) : okAll z us s ∧ Sim z f n (undoAll z us s) ls (c.2.head?.getD c.1, c.2.tail) := by
  obtain ⟨ss, h1, h2, h3⟩ := h.back
  obtain ⟨t, ts, rfl, h4, h5, h6⟩ := h1
  subst h5
  have h7 := h2 _ (List.mem_cons_self ..)
  refine ⟨h4, h7.1, h7.2, ⟨ts, h6, fun t ht => h2 t (List.mem_cons_of_mem _ ht), by rw [← h3]; rfl⟩, by rw [← h3]; rfl, ?_, ?_⟩
  · have := h.len
    simp at this
    omega
  · have := h.sum
    simp at this
    omega

theorem Sim.push {s' : MSt R} {m' : MSt L} (h : Sim z f n s (us :: ls) c) (u : Un R) (hok : undoOk u s') (hu : undo1 z u s' = s) (hg : Good z s') (hd : s'.data.length ≤ s.data.length + 1) (hr : s'.rcy.length ≤ s.rcy.length + 1) (hm : s'.to f = m') : Sim z f (n + 1) s' ((u :: us) :: ls) (m', c.2) := by
  obtain ⟨ss, h1, h2, h3⟩ := h.back
  have := h.bd.d
  have := h.bd.r
  refine ⟨hg, ⟨by omega, by omega⟩, ⟨ss, h1.push z u hok hu, fun t ht => ⟨(h2 t ht).1, (h2 t ht).2.mono (by omega)⟩, h3⟩, hm, ?_, ?_⟩
  · have := h.len
    simp at this ⊢
    omega
  · have := h.sum
    simp at this ⊢
    omega

theorem Sim.new (h : Sim z f n s (us :: ls) c) (hr : s.rcy = []) (r : R) : Sim z f (n + 1) ⟨s.data ++ [r], s.rcy⟩ ((.new s.data.length :: us) :: ls) (made c.1 (f r), c.2) := by
  refine h.push _ (by simp [undoOk]) (by simp [undo1]) ⟨by have := h.good.two; simp; omega, fun x hx => ?_, h.good.nodup⟩ (by simp) (by simp) ?_
  · rw [hr] at hx
    cases hx
  · rw [← h.cur]
    simp [made, MSt.to, hr]

theorem Sim.recy {hs : List Nat} {hd : Nat} (h : Sim z f n s (us :: ls) c) (hr : s.rcy = hs ++ [hd]) (r : R) : Sim z f (n + 1) ⟨s.data.set hd r, hs⟩ ((.recy hd :: us) :: ls) (made c.1 (f r), c.2) := by
  have hf := h.good.free hd (by rw [hr]; simp)
  have hlt := (List.getElem?_eq_some_iff.1 hf.2).1
  have hnd := h.good.nodup
  rw [hr] at hnd
  have hnd' := List.nodup_append.1 hnd
  refine h.push _ (by simpa [undoOk] using hlt) ?_ ⟨by have := h.good.two; simpa using this, fun x hx => ?_, hnd'.1⟩ (by simp) (by rw [hr]; simp; omega) ?_
  · show MSt.mk ((s.data.set hd r).set hd z) (hs ++ [hd]) = s
    rw [List.set_set, ← hr]
    have : s.data.set hd z = s.data := by
      apply List.ext_getElem?
      intro i
      rw [List.getElem?_set]
      split
      · next e => subst e; rw [hf.2]
      · rfl
    rw [this]
  · have h1 := h.good.free x (by rw [hr]; exact List.mem_append_left _ hx)
    refine ⟨h1.1, ?_⟩
    have hne : hd ≠ x := fun e => hnd'.2.2 x hx hd (by simp) e.symm
    show (s.data.set hd r)[x]? = _
    rw [List.getElem?_set_ne hne]
    exact h1.2
  · rw [← h.cur]
    simp [made, MSt.to, hr, List.map_set]

theorem Sim.upd {hd : Nat} {o : R} (h : Sim z f n s (us :: ls) c) (ho : s.data[hd]? = .some o) (hn : hd ∉ s.rcy) (r : R) : Sim z f (n + 1) ⟨s.data.set hd r, s.rcy⟩ ((.upd hd o :: us) :: ls) (⟨c.1.data.set hd (f r), c.1.rcy⟩, c.2) := by
  have hlt := (List.getElem?_eq_some_iff.1 ho).1
  refine h.push _ (by simpa [undoOk] using hlt) ?_ ⟨by have := h.good.two; simpa using this, fun x hx => ?_, h.good.nodup⟩ (by simp) (by simp) ?_
  · show MSt.mk ((s.data.set hd r).set hd o) s.rcy = s
    rw [List.set_set]
    have : s.data.set hd o = s.data := by
      apply List.ext_getElem?
      intro i
      rw [List.getElem?_set]
      split
      · next e => subst e; rw [ho]
      · rfl
    rw [this]
  · have h1 := h.good.free x hx
    have hne : hd ≠ x := fun e => hn (e ▸ hx)
    exact ⟨h1.1, by show (s.data.set hd r)[x]? = _; rw [List.getElem?_set_ne hne]; exact h1.2⟩
  · rw [← h.cur]
    simp [MSt.to, List.map_set]

theorem Sim.del {hd : Nat} {o : R} (h : Sim z f n s (us :: ls) c) (ho : s.data[hd]? = .some o) (h2 : 2 ≤ hd) (hn : hd ∉ s.rcy) : Sim z f (n + 1) ⟨s.data.set hd z, s.rcy ++ [hd]⟩ ((.del hd o :: us) :: ls) (⟨c.1.data.set hd (f z), c.1.rcy ++ [hd]⟩, c.2) := by
  have hlt := (List.getElem?_eq_some_iff.1 ho).1
  refine h.push _ ⟨by simpa using hlt, by simp⟩ ?_ ⟨by have := h.good.two; simpa using this, fun x hx => ?_, ?_⟩ (by simp) (by simp) ?_
  · show MSt.mk ((s.data.set hd z).set hd o) (s.rcy ++ [hd]).dropLast = s
    rw [List.set_set, List.dropLast_concat]
    have : s.data.set hd o = s.data := by
      apply List.ext_getElem?
      intro i
      rw [List.getElem?_set]
      split
      · next e => subst e; rw [ho]
      · rfl
    rw [this]
  · rcases List.mem_append.1 hx with hx | hx
    · have h1 := h.good.free x hx
      have hne : hd ≠ x := fun e => hn (e ▸ hx)
      exact ⟨h1.1, by show (s.data.set hd z)[x]? = _; rw [List.getElem?_set_ne hne]; exact h1.2⟩
    · obtain rfl := List.mem_singleton.1 hx
      exact ⟨h2, by show (s.data.set x z)[x]? = _; rw [List.getElem?_set_self hlt]⟩
  · refine List.nodup_append.2 ⟨h.good.nodup, by simp, fun a ha b hb => ?_⟩
    obtain rfl := List.mem_singleton.1 hb
    exact fun e => hn (e ▸ ha)
  · rw [← h.cur]
    simp [MSt.to, List.map_set]

/-! ### The plain store and what a law keeps -/

structure Fine (s : MSt L) : Prop where
  two : 2 ≤ s.data.length
  free : ∀ h ∈ s.rcy, 2 ≤ h ∧ h < s.data.length
  nodup : s.rcy.Nodup
def FineC (c : MC L) : Prop := Fine c.1 ∧ ∀ s ∈ c.2, Fine s

theorem List.mem_of_mem_dropLast' {α : Type} {a : α} {l : List α} (h : a ∈ l.dropLast) : a ∈ l := (List.dropLast_sublist l).subset h

theorem Fine.made {s : MSt L} (h : Fine s) (l : L) : Fine (made s l) := by
  unfold Go.Proofs.YtffgkocokkhahaaGreatDoor.made
  cases hr : s.rcy.getLast? with
  | none =>
    have hr' : s.rcy = [] := List.getLast?_eq_none_iff.1 hr
    exact ⟨by have := h.two; simp; omega, fun x hx => (by rw [show (MSt.mk (s.data ++ [l]) s.rcy).rcy = s.rcy from rfl, hr'] at hx; cases hx), h.nodup⟩
  | some hd => exact ⟨by have := h.two; simpa using this, fun x hx => by simpa using h.free x (List.mem_of_mem_dropLast' hx), h.nodup.sublist (List.dropLast_sublist _)⟩

theorem FineC.nxt {c : MC L} (h : FineC c) (z : L) {d : MD L} (hd : okD c d) : FineC (nxt z c d) := by
  cases d with
  | begin => exact ⟨h.1, fun s hs => (List.mem_cons.1 hs).elim (fun e => e ▸ h.1) (h.2 s)⟩
  | commit => exact ⟨h.1, fun s hs => h.2 s (List.mem_of_mem_tail hs)⟩
  | rollback =>
    refine ⟨?_, fun s hs => h.2 s (List.mem_of_mem_tail hs)⟩
    show Fine (c.2.head?.getD c.1)
    cases hc : c.2 with
    | nil => exact h.1
    | cons a t => exact h.2 a (by rw [hc]; simp)
  | create l => exact ⟨h.1.made l, h.2⟩
  | update x l => exact ⟨⟨by have := h.1.two; simpa [Go.Proofs.YtffgkocokkhahaaGreatDoor.nxt] using this, fun y hy => by simpa [Go.Proofs.YtffgkocokkhahaaGreatDoor.nxt] using h.1.free y hy, h.1.nodup⟩, h.2⟩
  | delete x =>
    refine ⟨⟨by have := h.1.two; simpa [Go.Proofs.YtffgkocokkhahaaGreatDoor.nxt] using this, fun y hy => ?_, ?_⟩, h.2⟩
    · rcases List.mem_append.1 hy with hy | hy
      · simpa [Go.Proofs.YtffgkocokkhahaaGreatDoor.nxt] using h.1.free y hy
      · obtain rfl := List.mem_singleton.1 hy
        exact ⟨hd.2.1, by simpa [Go.Proofs.YtffgkocokkhahaaGreatDoor.nxt] using hd.2.2.1⟩
    · refine List.nodup_append.2 ⟨h.1.nodup, by simp, fun a ha b hb => ?_⟩
      obtain rfl := List.mem_singleton.1 hb
      exact fun e => hd.2.2.2 (e ▸ ha)
  | read _ => exact h

/-- What a law keeps of a store: rows by handles. -/
def Link (N : Nat → Option R) (g : R → L) (s : MSt L) : Prop := ∀ h, (∀ r, N h = .some r → live s h ∧ s.data[h]? = .some (g r)) ∧ (N h = .none → ¬ live s h)

theorem Link.made {N : Nat → Option R} {g : R → L} {s : MSt L} (h : Link N g s) (hf : Fine s) (r : R) : 2 ≤ madeAt s ∧ N (madeAt s) = .none ∧ Link (fun k => if k = madeAt s then .some r else N k) g (made s (g r)) := by
  unfold madeAt Go.Proofs.YtffgkocokkhahaaGreatDoor.made
  cases hr : s.rcy.getLast? with
  | none =>
    have hr' : s.rcy = [] := List.getLast?_eq_none_iff.1 hr
    refine ⟨by simpa using hf.two, ?_, fun k => ⟨fun x hx => ?_, fun hx hl => ?_⟩⟩
    · show N s.data.length = _
      cases hN : N s.data.length with
      | none => rfl
      | some y =>
        have := ((h _).1 y hN).1.2.1
        omega
    · simp only [Option.getD_none] at hx
      by_cases e : k = s.data.length
      · rw [if_pos e] at hx
        injection hx with hx
        subst hx
        subst e
        exact ⟨⟨hf.two, by simp, by simp [hr']⟩, by simp⟩
      · rw [if_neg e] at hx
        have h1 := (h k).1 x hx
        exact ⟨⟨h1.1.1, by have := h1.1.2.1; simp; omega, h1.1.2.2⟩, by show (s.data ++ [g r])[k]? = _; rw [List.getElem?_append_left h1.1.2.1]; exact h1.2⟩
    · simp only [Option.getD_none] at hx
      by_cases e : k = s.data.length
      · rw [if_pos e] at hx
        cases hx
      · rw [if_neg e] at hx
        refine (h k).2 hx ⟨hl.1, ?_, hl.2.2⟩
        have := hl.2.1
        simp at this
        omega
  | some hd =>
    have hm : hd ∈ s.rcy := List.mem_of_getLast? hr
    have hff := hf.free hd hm
    have hne : s.rcy ≠ [] := fun e => by rw [e] at hm; cases hm
    have hsp : s.rcy = s.rcy.dropLast ++ [hd] := by
      obtain ⟨l', x, e⟩ := (List.eq_nil_or_concat s.rcy).resolve_left hne
      rw [e, List.concat_eq_append] at hr ⊢
      simp at hr
      rw [hr, List.dropLast_concat]
    have hnd := hf.nodup
    rw [hsp] at hnd
    have hnd' := List.nodup_append.1 hnd
    have hout : hd ∉ s.rcy.dropLast := fun hx => hnd'.2.2 hd hx hd (by simp) rfl
    refine ⟨hff.1, ?_, fun k => ⟨fun x hx => ?_, fun hx hl => ?_⟩⟩
    · show N hd = _
      cases hN : N hd with
      | none => rfl
      | some y => exact absurd hm ((h _).1 y hN).1.2.2
    · simp only [Option.getD_some] at hx
      by_cases e : k = hd
      · rw [if_pos e] at hx
        injection hx with hx
        subst hx
        subst e
        exact ⟨⟨hff.1, by simpa using hff.2, hout⟩, by show (s.data.set k (g r))[k]? = _; rw [List.getElem?_set_self hff.2]⟩
      · rw [if_neg e] at hx
        have h1 := (h k).1 x hx
        exact ⟨⟨h1.1.1, by simpa using h1.1.2.1, fun hx => h1.1.2.2 (List.mem_of_mem_dropLast' hx)⟩, by show (s.data.set hd (g r))[k]? = _; rw [List.getElem?_set_ne (fun e' => e e'.symm)]; exact h1.2⟩
    · simp only [Option.getD_some] at hx
      by_cases e : k = hd
      · rw [if_pos e] at hx
        cases hx
      · rw [if_neg e] at hx
        refine (h k).2 hx ⟨hl.1, by simpa using hl.2.1, fun hm => ?_⟩
        rw [hsp] at hm
        rcases List.mem_append.1 hm with hm | hm
        · exact hl.2.2 hm
        · exact e (List.mem_singleton.1 hm)

theorem Link.upd {N : Nat → Option R} {g : R → L} {s : MSt L} (h : Link N g s) {hd : Nat} {o : R} (ho : N hd = .some o) (r : R) : Link (fun k => if k = hd then .some r else N k) g ⟨s.data.set hd (g r), s.rcy⟩ := by
  have h0 := (h hd).1 o ho
  refine fun k => ⟨fun x hx => ?_, fun hx hl => ?_⟩
  · dsimp only at hx
    by_cases e : k = hd
    · rw [if_pos e] at hx
      injection hx with hx
      subst hx
      subst e
      exact ⟨⟨h0.1.1, by simpa using h0.1.2.1, h0.1.2.2⟩, by show (s.data.set k (g r))[k]? = _; rw [List.getElem?_set_self h0.1.2.1]⟩
    · rw [if_neg e] at hx
      have h1 := (h k).1 x hx
      exact ⟨⟨h1.1.1, by simpa using h1.1.2.1, h1.1.2.2⟩, by show (s.data.set hd (g r))[k]? = _; rw [List.getElem?_set_ne (fun e' => e e'.symm)]; exact h1.2⟩
  · dsimp only at hx
    by_cases e : k = hd
    · rw [if_pos e] at hx
      cases hx
    · rw [if_neg e] at hx
      exact (h k).2 hx ⟨hl.1, by simpa using hl.2.1, hl.2.2⟩

theorem Link.del {N : Nat → Option R} {g : R → L} {s : MSt L} (h : Link N g s) (hd : Nat) (z : L) : Link (fun k => if k = hd then .none else N k) g ⟨s.data.set hd z, s.rcy ++ [hd]⟩ := by
  refine fun k => ⟨fun x hx => ?_, fun hx hl => ?_⟩
  · dsimp only at hx
    by_cases e : k = hd
    · rw [if_pos e] at hx
      cases hx
    · rw [if_neg e] at hx
      have h1 := (h k).1 x hx
      exact ⟨⟨h1.1.1, by simpa using h1.1.2.1, fun hm => (List.mem_append.1 hm).elim h1.1.2.2 (fun hm => e (List.mem_singleton.1 hm))⟩, by show (s.data.set hd z)[k]? = _; rw [List.getElem?_set_ne (fun e' => e e'.symm)]; exact h1.2⟩
  · dsimp only at hx
    by_cases e : k = hd
    · subst e
      exact hl.2.2 (by simp)
    · rw [if_neg e] at hx
      exact (h k).2 hx ⟨hl.1, by simpa using hl.2.1, fun hm => hl.2.2 (List.mem_append_left _ hm)⟩

end

end Go.Proofs.YtffgkocokkhahaaGreatDoor

/- impl.outs of a store's row: a blob of no bytes may be nil. -/
namespace Go.Proofs.YtffgkocokkhahaaGreatDoor
open Go.RowKit

theorem RepZ.below {w w' : World} {y : SV} {v : Value} (h : RepZ w y v) (hb : Below w.heap.size w w') : RepZ w' y v := h.imp (fun h => h.below hb) id
theorem RepKZ.below {w w' : World} {l : List VV} {k : Nat} {vs : List Value} (h : RepKZ w l k vs) (hb : Below w.heap.size w w') : RepKZ w' l k vs :=
  ⟨h.1, fun j x v hx hv => by obtain ⟨y, h1, h2⟩ := h.2 j x v hx hv; exact ⟨y, h1, h2.below hb⟩⟩

theorem conv_nil (w : World) : (convert 188 9 (.slice none 0 0)).run Tryz.prog w = .ok (.string ⟨#[]⟩) w := by kernel_rfl

set_option maxRecDepth 100000 in
set_option maxHeartbeats 1000000 in
theorem out_blob_nil (w : World) :
    Calls Tryz.prog 81 #[.iface 188 (.slice none 0 0)] w (OutPost (.blob []) w) := by
  have c1 : ∀ o, (convert 188 9 (.slice none 0 0)).run Tryz.prog (w.alloc o) = .ok (.string ⟨#[]⟩) (w.alloc o) := fun o => conv_nil _
  go_enter Tryz.func81, Tryz.ntmps81
  go_wp2
  exact bodyPost_ret (v := .agg #[.string ⟨#[98, 108, 111, 98]⟩, .int .i64 (0), .int .u64 (0), .float .f64 (0), .string ⟨#[]⟩]) (by simp [results, go_sem]) rfl ⟨_, rfl, ((Below.refl _ _).alloc (Nat.le_refl _) _), rfl⟩

theorem out_anyZ (x : SV) (hx : x.wf) (v : Value) (w : World) (h : RepZ w x v) : Calls Tryz.prog 81 #[v] w (OutPost x w) := by
  rcases h with h | ⟨rfl, rfl⟩
  · exact out_any x hx v w h
  · exact out_blob_nil w

set_option maxHeartbeats 1000000 in
theorem outs_anyZ (l : List VV) (A : Option Addr) (c : Nat) (vs : List Value) (w : World) (hr : Reads w w.heap.size 1 A l.length vs) (hk : RepKZ w l l.length vs) (hg : ∀ (j : Nat) (x : VV), l[j]? = some x → x.good) (hm : l.length ≤ 2147483647) :
    Calls Tryz.prog 56 #[.slice A l.length c] w (OutsPost l w) := by
  obtain ⟨i0, hi, hz0, hz1, hz2⟩ := info_parts info_value
  obtain ⟨len, hlen⟩ : ∃ len, len = l.length := ⟨_, rfl⟩
  have HR := Lib.hid hr
  have HK := Lib.hid hk
  have HN := Lib.hid hlen
  have HG := Lib.hid hg
  unfold OutsPost
  rw [← hlen] at hm ⊢
  clear hr hk hlen hg
  go_enter Tryz.func56, Tryz.ntmps56
  go_wp2
  go_loopw [3, 8] (fun r i wr => ∃ (k : Nat) (us : List VV), k ≤ len ∧ i = .int .i64 k ∧ wr.ownsRow w.heap.size 57 5 r k (flat VV.cells us) ∧ us.length = k ∧ (∀ (j : Nat) (x u : VV), l[j]? = some x → us[j]? = some u → OutOf x u) ∧ Below w.heap.size w wr) (fun _ i _ => len - (intOf i).toNat)
  case atStart => exact ⟨0, [], by omega, rfl, World.ownsRow_nil _ _ _ _, rfl, fun j x u _ h => by simp at h, Below.refl _ _⟩
  case round =>
    obtain ⟨k, us, hk, rfl, hown, hus, hout, hb⟩ := hrel
    have HO := Lib.hid hown
    have HU := Lib.hid hus
    have HT := Lib.hid hout
    have HB := Lib.hid hb
    have hs := hb.size
    clear hown hout hus
    by_cases hlt : k < len
    · obtain ⟨x, hx⟩ : ∃ x, l[k]? = some x := ⟨_, List.getElem?_eq_getElem (by rw [← HN.out]; exact hlt)⟩
      obtain ⟨ad, v, rfl, hbv, hv, hcv⟩ := (HR.out.below hb).at_ (k := k) (by rw [← HN.out]; exact hlt)
      obtain ⟨y, hy, hrep⟩ := (HK.out.below hb).2 k x v hx hv
      have HX := Lib.hid hx
      have HY := Lib.hid hy
      have hwf := toSV_wf (HG.out k x hx).1 (HG.out k x hx).2 hy
      have HW := Lib.hid hwf
      have HC := Lib.hid (fun W (hW : Below wr.heap.size wr W) => out_anyZ y hwf v W (hrep.below hW))
      clear hx hv hy hrep hb hwf
      go_wp2_with (first
        | (go_at_call 81; refine (HC.out _ (Below.refl _ _)).mono ?_; rintro e w1 ⟨f, rfl, hb1, hf⟩; have HB1 := Lib.hid hb1; have HF := Lib.hid hf; have hs1 := hb1.size; clear hb1 hf)
        | (at_builtin
           refine wpList_append_any _ rfl (.tmp 12) (.tmp 15) _ rfl w.heap.size 57 i0 _ 5 56 Tryz.underlying32 hi hz0 hz1 hz2 rfl (by omega) u3 k (flat VV.cells us) rfl
             ((own_below HO.out HB1.out).alloc _) (w1.heap.size + 1) (some ⟨w1.heap.size, 0, none⟩) 1 1 (VV.cells ⟨y.nm, y.oN, y.oU, f, y.oS⟩) rfl (reads_one _ ⟨y.nm, y.oN, y.oU, f, y.oS⟩ _) (fun u hu => by simp [VV.cells] at hu; rcases hu with rfl | rfl | rfl | rfl | rfl <;> rfl) (by simp only [maxLen]; omega) (by omega) (by simp; omega) ?_
           intro v2 w2 hown2 hg2 _
           have HO2 := Lib.hid hown2; have HG2 := Lib.hid hg2; clear hown2 hg2))
      refine ⟨⟨k + 1, us ++ [⟨y.nm, y.oN, y.oU, f, y.oS⟩], by omega, by push_cast; rfl, by rw [flat_append]; simpa [flat] using HO2.out, by simp [HU.out], ?_, ?_⟩, by simp [intOf]; omega⟩
      · intro j a u ha hu
        rcases Nat.lt_or_ge j k with h | h
        · rw [List.getElem?_append_left (by rw [HU.out]; exact h)] at hu
          exact HT.out j a u ha hu
        · rw [List.getElem?_append_right (by rw [HU.out]; exact h), HU.out] at hu
          have hj : j - k = 0 := by
            rcases Nat.eq_zero_or_pos (j - k) with h | h
            · exact h
            · rw [List.getElem?_eq_none (by simp; omega)] at hu
              cases hu
          have hjk : j = k := by omega
          subst hjk
          rw [hj] at hu
          simp at hu
          subst hu
          have : a = x := Option.some.inj (ha.symm.trans HX.out)
          subst this
          exact ⟨y, HY.out, HW.out, HF.out, rfl, rfl, rfl, rfl⟩
      · have hb1 : Below w.heap.size w w1 := up_below' HB.out HB1.out
        exact (hb1.alloc (by omega) _).grown HG2.out (by simp; omega) (fun g hg => (HO.out.lt g hg).1)
    · have hke : k = len := by omega
      subst hke
      obtain ⟨A', c', rfl⟩ := own_form HO.out
      go_wp2
      go_ret
      exact ⟨A', c', us, rfl, HO.out, HU.out, HT.out, HB.out⟩

end Go.Proofs.YtffgkocokkhahaaGreatDoor

/- (*mem).Rollback: what holds while undos are taken back, and behind it. -/
namespace Go.Proofs.YtffgkocokkhahaaGreatDoor
open Go.RowKit

/-- A rollback under way. -/
structure Rol (D : Nat → Prop) (w0 : World) (m r : Nat) (dv0 rv0 : Value) (w : World) (s : MSt RV) (us : List (Un RV)) (ls : List (List (Un RV))) (dv rv p L : Value) (S : Nat → Prop) : Prop where
  t : MemT D w m r s us ls dv rv p L S
  off : OffTop D m r dv rv L
  dat : ∀ k, D k → k < w.heap.size ∧ ¬ S k
  chg : Chg (fun b => b = m ∨ dv0.ownBlock = some b ∨ rv0.ownBlock = some b) w0 w
  nd : ∀ b, dv.ownBlock = some b → dv0.ownBlock = some b ∨ w0.heap.size ≤ b
  nr : ∀ b, rv.ownBlock = some b → rv0.ownBlock = some b ∨ w0.heap.size ≤ b

variable {D M S : Nat → Prop} {w0 w W : World} {m r : Nat} {dv0 rv0 : Value} {s s' : MSt RV} {us : List (Un RV)} {ls : List (List (Un RV))} {dv rv dv' rv' p L : Value}

theorem Rol.turn (h : Rol D w0 m r dv0 rv0 w s us ls dv rv p L S) (kW : Chg (fun b => b = m ∨ dv.ownBlock = some b ∨ rv.ownBlock = some b) w W) (mem' : MemL W m dv' rv' (ls.length + 1) (ptr r)) (data' : W.ownsRow 0 87 1 dv' s'.data.length (s'.data.map RV.val))
    (rcy' : W.ownsRow 0 3 1 rv' s'.rcy.length (s'.rcy.map natV)) (rows' : ∀ r ∈ s'.data, r.ok D W) (nd' : ∀ b, dv'.ownBlock = some b → dv.ownBlock = some b ∨ w.heap.size ≤ b) (nr' : ∀ b, rv'.ownBlock = some b → rv.ownBlock = some b ∨ w.heap.size ≤ b) :
    Rol D w0 m r dv0 rv0 W s' us ls dv' rv' p L S := by
  have A := h.t.apart
  have lr := lt_of_heap h.t.roll
  have hs := h.chg.size
  have hL : ∀ b, L.ownBlock = some b → b < w.heap.size := fun b hb => own_lt h.t.list hb
  have hDT : ∀ k, D k → ¬ (k = m ∨ dv.ownBlock = some k ∨ rv.ownBlock = some k) := fun k hk e => h.off k hk (by rcases e with e | e | e; exact .inl e; exact .inr (.inr (.inl e)); exact .inr (.inr (.inr (.inl e))))
  have hST : ∀ k, S k → ¬ (k = m ∨ dv.ownBlock = some k ∨ rv.ownBlock = some k) := fun k hk e => by
    rcases e with rfl | e | e
    · exact A.sm hk
    · exact A.sd k e hk
    · exact A.sc k e hk
  refine ⟨⟨mem', data', rcy', rows', heap_chg h.t.roll kW (fun e => ?_), own_chg h.t.list kW (fun b hb e => ?_), fun u hu => (h.t.olds u hu).chg kW hDT, h.t.lev.chg kW hST hDT, A.sr, A.sl⟩, fun k hk ht => ?_, fun k hk => ⟨Nat.lt_of_lt_of_le (h.dat k hk).1 kW.size, (h.dat k hk).2⟩, h.chg.next kW (fun b hb e => ?_), fun b hb => ?_, fun b hb => ?_⟩
  · rcases e with e | e | e
    · exact A.mr e.symm
    · exact A.dr e
    · exact A.rr e
  · rcases e with e | e | e
    · exact A.lm (by rw [hb, e])
    · exact A.dl b e hb
    · exact A.cl b e hb
  · have hlt := (h.dat k hk).1
    rcases ht with e | e | e | e | e
    · exact h.off k hk (.inl e)
    · exact h.off k hk (.inr (.inl e))
    · rcases nd' k e with e | e
      · exact h.off k hk (.inr (.inr (.inl e)))
      · omega
    · rcases nr' k e with e | e
      · exact h.off k hk (.inr (.inr (.inr (.inl e))))
      · omega
    · exact h.off k hk (.inr (.inr (.inr (.inr e))))
  · rcases e with e | e | e
    · exact .inl e
    · exact (h.nd b e).elim (fun e => .inr (.inl e)) (fun e => by omega)
    · exact (h.nr b e).elim (fun e => .inr (.inr e)) (fun e => by omega)
  · exact (nd' b hb).elim (h.nd b) (fun e => .inr (by omega))
  · exact (nr' b hb).elim (h.nr b) (fun e => .inr (by omega))

/-- Nothing of the store has turned. -/
theorem Rol.below (h : Rol D w0 m r dv0 rv0 w s us ls dv rv p L S) (hb : Below w.heap.size w W) : Rol D w0 m r dv0 rv0 W s us ls dv rv p L S := by
  have kW : Chg (fun b => b = m ∨ dv.ownBlock = some b ∨ rv.ownBlock = some b) w W := Chg.of_below hb
  have k0 : Chg (fun _ => False) w W := Chg.of_below hb
  exact h.turn kW (heap_chg h.t.mem k0 id) (own_chg h.t.data k0 (fun _ _ h => h)) (own_chg h.t.rcy k0 (fun _ _ h => h)) (fun x hx => (h.t.rows x hx).chg k0 (fun _ _ h => h)) (fun b hb => .inl hb) (fun b hb => .inl hb)

theorem Rol.start (h : MemT D w m r s us ls dv rv p L S) (hoff : OffTop D m r dv rv L) (hD : ∀ k, D k → k < w.heap.size ∧ ¬ S k) : Rol D w m r dv rv w s us ls dv rv p L S :=
  ⟨h, hoff, hD, Chg.refl _ w, fun _ h => .inl h, fun _ h => .inl h⟩

/-- The level is gone. -/
theorem Rol.fin (h : Rol D w0 m r dv0 rv0 w s us ls dv rv p L S) (hM : ∀ k, M k ↔ (Top m r dv0 rv0 L k ∨ S k)) {t : Nat} (ht : t = ls.length) :
    StepP m s ls M D w0 ((w.setCell ⟨m, 3, none⟩ (.int .i64 (t : Int))).setCell ⟨m, 4, none⟩ p) := by
  subst ht
  have A := h.t.apart
  have hs := h.chg.size
  obtain ⟨W, hW⟩ : ∃ W, W = (w.setCell ⟨m, 3, none⟩ (.int .i64 ((ls.length : Nat) : Int))).setCell ⟨m, 4, none⟩ p := ⟨_, rfl⟩
  rw [← hW]
  have hk : Chg (fun b => b = m) w W := hW ▸ Chg.setCell (Chg.setCell (Chg.refl (fun b => b = m) w) (p := ⟨m, _, none⟩) (.inl rfl) _) (p := ⟨m, _, none⟩) (.inl rfl) _
  have hDm : ∀ k, D k → ¬ k = m := fun k hk e => h.off k hk (.inl e)
  have hm : MemL W m dv rv ls.length p := by
    show W.heap[m]? = _
    rw [hW, heap_setCell_at, heap_setCell_at, h.t.mem]
    rfl
  have up : ∀ k, Mset m dv rv S k → M k ∨ w0.heap.size ≤ k := fun k hk => by
    rcases hk with e | e | e | e
    · exact .inl ((hM k).2 (.inl (.inl e)))
    · exact (h.nd k e).imp (fun e => (hM k).2 (.inl (.inr (.inr (.inl e))))) id
    · exact (h.nr k e).imp (fun e => (hM k).2 (.inl (.inr (.inr (.inr (.inl e)))))) id
    · exact .inl ((hM k).2 (.inr e))
  refine ⟨Mset m dv rv S, D, ⟨⟨dv, rv, _, _, ⟨hm, own_chg h.t.data hk (fun b hb e => A.dm (by rw [hb, e])), own_chg h.t.rcy hk (fun b hb e => A.rm (by rw [hb, e])), fun x hx => (h.t.rows x hx).chg hk hDm, h.t.lev.chg hk (fun k hk e => A.sm (e ▸ hk)) hDm⟩, fun _ => Iff.rfl⟩, fun k hk' => ?_⟩, (h.chg.next hk (fun b _ e => .inl e)).mono (fun k _ e => ?_), fun k h => h, up, fun k hk => .inl hk⟩
  · refine ⟨Nat.lt_of_lt_of_le (h.dat k hk').1 hk.size, fun e => ?_⟩
    rcases e with e | e | e | e
    · exact h.off k hk' (.inl e)
    · exact h.off k hk' (.inr (.inr (.inl e)))
    · exact h.off k hk' (.inr (.inr (.inr (.inl e))))
    · exact (h.dat k hk').2 e
  · exact (hM k).2 (.inl (by rcases e with e | e | e; exact .inl e; exact .inr (.inr (.inl e)); exact .inr (.inr (.inr (.inl e)))))

theorem own_any (A : Option Addr) (n c n' c' : Nat) : (Value.slice A n c).ownBlock = (Value.slice A n' c').ownBlock := by
  cases A with
  | none => rfl
  | some a =>
    obtain ⟨b, o, f⟩ := a
    cases o <;> cases f <;> rfl

/-- What a round stores. -/
theorem Rol.new {x : RV} {xs : List RV} {A : Option Addr} {n c : Nat} (h : Rol D w0 m r dv0 rv0 w s us ls (.slice A n c) rv p L S) (hd : s.data = xs ++ [x]) (hn : n = xs.length + 1) (hW : W = w.setCell ⟨m, 0, none⟩ (.slice A xs.length c)) :
    Rol D w0 m r dv0 rv0 W ⟨xs, s.rcy⟩ us ls (.slice A xs.length c) rv p L S := by
  subst hW
  have AA := h.t.apart
  have hk : Chg (fun b => b = m) w (w.setCell ⟨m, 0, none⟩ (.slice A xs.length c)) := chg_m m 0 _
  have hoff : ∀ k, D k → ¬ k = m := fun k hk e => h.off k hk (.inl e)
  have hb0 : (Value.slice A xs.length c).ownBlock = (Value.slice A n c).ownBlock := own_any _ _ _ _ _
  have hdat := h.t.data
  rw [hd] at hdat
  have hn' : (xs ++ [x]).length = n := by simp [hn]
  rw [hn'] at hdat
  have h1 := own_cut hdat (k := xs.length) (by omega) (by omega)
  rw [Nat.mul_one, List.map_append, List.take_append_of_le_length (by simp), List.take_of_length_le (by simp)] at h1
  refine h.turn (hk.mono (fun b _ e => .inl e)) ?_ (own_chg h1 hk (fun b hb e => AA.dm (by rw [← e]; exact hb0.symm.trans hb))) (own_chg h.t.rcy hk (fun b hb e => AA.rm (by rw [hb, e]))) (fun y hy => ((h.t.rows y (by rw [hd]; exact List.mem_append_left _ hy)).chg hk hoff)) (fun b e => .inl (hb0.symm.trans e)) (fun b e => .inl e)
  show (w.setCell ⟨m, 0, none⟩ (.slice A xs.length c)).heap[m]? = _
  rw [heap_setCell_at, h.t.mem]
  rfl

theorem Rol.set {gd hd n c : Nat} {o : RV} (h : Rol D w0 m r dv0 rv0 w s us ls (.slice (some ⟨gd, 0, none⟩) n c) rv p L S) (hn : n = s.data.length) (ho : o.ok D w) (hW : W = w.setCell ⟨gd, hd, none⟩ o.val) :
    Rol D w0 m r dv0 rv0 W ⟨s.data.set hd o, s.rcy⟩ us ls (.slice (some ⟨gd, 0, none⟩) n c) rv p L S := by
  subst hW
  have AA := h.t.apart
  have gm : gd ≠ m := fun e => AA.dm (by rw [e]; rfl)
  have hk : Chg (fun b => b = gd) w (w.setCell ⟨gd, hd, none⟩ o.val) := chg_m gd hd _
  have hoff : ∀ k, D k → ¬ k = gd := fun k hk e => h.off k hk (.inr (.inr (.inl (by rw [e]; rfl))))
  have hdat := h.t.data
  rw [← hn] at hdat
  refine h.turn (hk.mono (fun b _ e => .inr (.inl (by rw [e]; rfl)))) ?_ ?_ (own_chg h.t.rcy hk (fun b hb e => AA.dc gd rfl (by rw [hb, e]))) (fun y hy => ?_) (fun b e => .inl e) (fun b e => .inl e)
  · exact (heap_setCell_ne _ _ _ _ _ (fun e => gm e.symm)).trans h.t.mem
  · have h2 := (hdat.stored hd o.val).1
    show World.ownsRow _ _ _ _ _ (s.data.set hd o).length ((s.data.set hd o).map RV.val)
    rw [List.length_set, List.map_set, ← hn]
    exact h2
  · rcases List.mem_or_eq_of_mem_set hy with h1 | rfl
    · exact (h.t.rows y h1).chg hk hoff
    · exact ho.chg hk hoff

theorem Rol.rpush {hd : Nat} {rv1 : Value} {w1 : World} (h : Rol D w0 m r dv0 rv0 w s us ls dv rv p L S) (hc : Chg (fun b => rv.ownBlock = some b) w w1) (ho : w1.ownsRow 0 3 1 rv1 (s.rcy.length + 1) (s.rcy.map natV ++ [natV hd])) (hr : ∀ b, rv1.ownBlock = some b → rv.ownBlock = some b ∨ w.heap.size ≤ b) (hW : W = w1.setCell ⟨m, 2, none⟩ rv1) :
    Rol D w0 m r dv0 rv0 W ⟨s.data, s.rcy ++ [hd]⟩ us ls dv rv1 p L S := by
  subst hW
  have AA := h.t.apart
  have lm := lt_of_heap h.t.mem
  have hk : Chg (fun b => b = m ∨ rv.ownBlock = some b) w (w1.setCell ⟨m, 2, none⟩ rv1) := Chg.setCell (S := fun b => b = m ∨ rv.ownBlock = some b) (hc.mono (fun b _ e => .inr e)) (p := ⟨m, 2, none⟩) (.inl (.inl rfl)) _
  have hoff : ∀ k, D k → ¬ (k = m ∨ rv.ownBlock = some k) := fun k hk e => h.off k hk (by rcases e with e | e; exact .inl e; exact .inr (.inr (.inr (.inl e))))
  refine h.turn (hk.mono (fun b _ e => e.elim .inl (fun e => .inr (.inr e)))) ?_ (own_chg h.t.data hk (fun b hb e => by rcases e with e | e; exact AA.dm (by rw [hb, e]); exact AA.dc b hb e)) ?_ (fun y hy => (h.t.rows y hy).chg hk hoff) (fun b e => .inl e) hr
  · show (w1.setCell ⟨m, 2, none⟩ rv1).heap[m]? = _
    rw [heap_setCell_at, hc.block m lm (fun e => AA.rm e), h.t.mem]
    rfl
  · have := ownsRow_setCell_other ho (a := ⟨m, 2, none⟩) (fun e => by
      rcases hr _ e with h1 | h1
      · exact AA.rm h1
      · have : w.heap.size ≤ m := h1
        omega) rv1
    show World.ownsRow _ _ _ _ _ (s.rcy ++ [hd]).length ((s.rcy ++ [hd]).map natV)
    rw [List.length_append, List.map_append]
    exact this

theorem Rol.rpop {A : Option Addr} {n c hd : Nat} {hs : List Nat} (h : Rol D w0 m r dv0 rv0 w s us ls dv (.slice A n c) p L S) (hr : s.rcy = hs ++ [hd]) (hn : n = hs.length + 1) (hW : W = w.setCell ⟨m, 2, none⟩ (.slice A hs.length c)) :
    Rol D w0 m r dv0 rv0 W ⟨s.data, hs⟩ us ls dv (.slice A hs.length c) p L S := by
  subst hW
  have AA := h.t.apart
  have hk : Chg (fun b => b = m) w (w.setCell ⟨m, 2, none⟩ (.slice A hs.length c)) := chg_m m 2 _
  have hoff : ∀ k, D k → ¬ k = m := fun k hk e => h.off k hk (.inl e)
  have hb0 : (Value.slice A hs.length c).ownBlock = (Value.slice A n c).ownBlock := own_any _ _ _ _ _
  have hdat := h.t.rcy
  rw [hr] at hdat
  have hn' : (hs ++ [hd]).length = n := by simp [hn]
  rw [hn'] at hdat
  have h1 := own_cut hdat (k := hs.length) (by omega) (by omega)
  rw [Nat.mul_one, List.map_append, List.take_append_of_le_length (by simp), List.take_of_length_le (by simp)] at h1
  refine h.turn (hk.mono (fun b _ e => .inl e)) ?_ (own_chg h.t.data hk (fun b hb e => AA.dm (by rw [hb, e]))) (own_chg h1 hk (fun b hb e => AA.rm (by rw [← e]; exact hb0.symm.trans hb))) (fun y hy => ((h.t.rows y hy).chg hk hoff)) (fun b e => .inl e) (fun b e => .inl (hb0.symm.trans e))
  show (w.setCell ⟨m, 2, none⟩ (.slice A hs.length c)).heap[m]? = _
  rw [heap_setCell_at, h.t.mem]
  rfl

end Go.Proofs.YtffgkocokkhahaaGreatDoor

/- (*mem).Rollback. -/
namespace Go.Proofs.YtffgkocokkhahaaGreatDoor
open Go.RowKit

variable {D M S : Nat → Prop} {w0 w W : World} {m r : Nat} {dv0 rv0 : Value} {s s' : MSt RV} {us : List (Un RV)} {ls : List (List (Un RV))} {dv rv dv' rv' p L : Value}

/-- What holds between two rounds of a rollback. -/
structure RolR (D : Nat → Prop) (w0 : World) (m r : Nat) (dv0 rv0 : Value) (s0 : MSt RV) (us us2 : List (Un RV)) (ls : List (List (Un RV))) (p L : Value) (S : Nat → Prop) (w : World) (s : MSt RV) (dv rv : Value) : Prop where
  tail : ∃ us1, us = us1 ++ us2
  ok : okAll RV.nil us2 s
  go : undoAll RV.nil us2 s = undoAll RV.nil us s0
  rcy : s.rcy.length + us2.length ≤ 2000
  len : s.data.length ≤ 1000
  rol : Rol D w0 m r dv0 rv0 w s us ls dv rv p L S

theorem i64_pred (q : Nat) (h : q ≤ 10000) : IntKind.i64.wrap ((q : Int) - 1) = (q : Int) - 1 := IntWalk.i64_in _ (by omega)
theorem i64_pred2 {n x : Nat} (hx : n = x + 1) : (n : Int) - 1 = (x : Int) := by omega
theorem i64_pred3 {n x : Nat} (hx : n = x + 1) (h : n ≤ 10000) : IntKind.i64.wrap ((n : Int) - 1) = (x : Int) := by rw [i64_pred2 hx]; exact IntWalk.i64_in _ (by omega)
theorem w64_nat (n : Nat) (h : n ≤ 10000) : wrap64 (n : Int) = n := wrap64_of (by omega) (by omega)

theorem RolR.head {u : Un RV} {us1 us2 : List (Un RV)} {q : Nat} (h : us = us1 ++ u :: us2) (hq : us2.length = q) : us.reverse[q]? = some u := by
  rw [h, List.reverse_append, List.reverse_cons, List.getElem?_append_left (by simp; omega), List.getElem?_append_right (by simp; omega)]
  simp [hq]

theorem z_of {α : Type} {z : Int} {q q' : Nat} {u : α} {us2 : List α} (hz : z + 1 = q) (hq : (u :: us2).length = q) (hq' : q' = us2.length) : z = (q' : Int) := by
  rw [List.length_cons] at hq
  omega

theorem meas_lt (q : Nat) : ((q : Int)).toNat < ((q : Int) + 1).toNat := by omega

theorem Rol.new1 {s : MSt RV} {us : List (Un RV)} {h nd nx gd cd : Nat} (hr : Rol D w0 m r dv0 rv0 w s us ls (.slice (some ⟨gd, 0, none⟩) nd cd) rv p L S) (hnd : nd = s.data.length) (hnx : nd = nx + 1) (hW : W = w.setCell ⟨m, 0, none⟩ (.slice (some ⟨gd, 0, none⟩) nx cd)) :
    Rol D w0 m r dv0 rv0 W (undo1 RV.nil (.new h) s) us ls (.slice (some ⟨gd, 0, none⟩) nx cd) rv p L S := by
  have hne : s.data ≠ [] := fun e => by rw [e] at hnd; simp at hnd; omega
  obtain ⟨xs, x, e⟩ := (List.eq_nil_or_concat s.data).resolve_left hne
  rw [List.concat_eq_append] at e
  have hx : nx = xs.length := by rw [e] at hnd; simp at hnd; omega
  subst hx
  have := hr.new e hnx hW
  have e2 : undo1 RV.nil (.new h) s = ⟨xs, s.rcy⟩ := by simp [undo1, e]
  rw [e2]
  exact this

theorem reads_at (x : World) (v : Value) (t : TypeId) {B : Nat} (hB : B = x.heap.size) : Reads (x.alloc (.cells #[v] t)) (B + 1) 1 (some ⟨B, 0, none⟩) 1 [v] := by
  subst hB
  exact ⟨rfl, fun _ => ⟨_, rfl, Nat.lt_succ_self _, fun j u hu => World.news_of_block (heap_new x _) j u hu⟩⟩

theorem Rol.rpop1 {s : MSt RV} {us : List (Un RV)} {h : Nat} {o : RV} {qr qx c : Nat} {A : Option Addr} (hr : Rol D w0 m r dv0 rv0 w ⟨s.data.set h o, s.rcy⟩ us ls dv (.slice A qr c) p L S) (hq : qr = s.rcy.length) (hx : qr = qx + 1) (hW : W = w.setCell ⟨m, 2, none⟩ (.slice A qx c)) :
    Rol D w0 m r dv0 rv0 W (undo1 RV.nil (.del h o) s) us ls dv (.slice A qx c) p L S := by
  have hne : s.rcy ≠ [] := fun e => by rw [e] at hq; simp at hq; omega
  obtain ⟨xs, x, e⟩ := (List.eq_nil_or_concat s.rcy).resolve_left hne
  rw [List.concat_eq_append] at e
  have hx2 : qx = xs.length := by rw [e] at hq; simp at hq; omega
  subst hx2
  have := hr.rpop (hs := xs) (hd := x) e hx hW
  have e2 : undo1 RV.nil (.del h o) s = ⟨s.data.set h o, xs⟩ := by simp [undo1, e]
  rw [e2]
  exact this

/-- What a round finds. -/
theorem RolR.cons {s0 : MSt RV} {u : Un RV} {us us2 : List (Un RV)} {A3 : Option Addr} {n c3 q : Nat} (h : RolR D w0 m r dv0 rv0 s0 us (u :: us2) ls p (.slice A3 n c3) S w s dv rv) (hn : n = us.length) (hu : n ≤ 1000) (hq : q = us2.length) :
    ∃ g gd nd cd, A3 = some ⟨g, 0, none⟩ ∧ dv = .slice (some ⟨gd, 0, none⟩) nd cd ∧ nd = s.data.length ∧ q < n ∧ q ≤ 1000 ∧ nd ≤ 1000 ∧ nd ≤ cd ∧ ¬ gd = m ∧ ¬ m = gd ∧ gd < w.heap.size ∧ m < w.heap.size ∧ w.ownsRow 0 87 1 (.slice (some ⟨gd, 0, none⟩) nd cd) nd (s.data.map RV.val) ∧
      (∀ (j : Nat) (v : Value), j < 3 → u.cells[j]? = some v → w.cell? ⟨g, q * 3 + j, none⟩ = some v) ∧ w.cell? ⟨m, 0, none⟩ = some (.slice (some ⟨gd, 0, none⟩) nd cd) ∧ w.cell? ⟨m, 2, none⟩ = some rv ∧ (∀ o, w.frozen? ⟨m, o, none⟩ = false) ∧ (u.row RV.nil).ok D w ∧ 0 < nd := by
  subst hq
  obtain ⟨us1, hus⟩ := h.tail
  have hhd := RolR.head hus rfl
  have hrol := h.rol
  have hul : us.length = us1.length + (us2.length + 1) := by rw [hus]; simp
  obtain ⟨g, cg, hA3, _, lg⟩ := hrol.t.list.form (by omega)
  injection hA3 with hA3 hnn hcc
  subst hA3
  have hlist : w.ownsRow 0 163 3 (.slice (some ⟨g, 0, none⟩) n c3) us.length (flat Un.cells us.reverse) := hrol.t.list
  have hok := h.ok
  have hlen := h.len
  have hdpos : 0 < s.data.length := by
    cases u with
    | new h => exact hok.1
    | recy h => have h1 := hok.1; simp only [undoOk] at h1; omega
    | upd h o => have h1 := hok.1; simp only [undoOk] at h1; omega
    | del h o => have h1 := hok.1.1; omega
  obtain ⟨gd, cd, rfl, _, lgd⟩ := hrol.t.data.form (by omega)
  have AP := hrol.t.apart
  have gm : ¬ gd = m := fun e => AP.dm (by rw [e]; rfl)
  refine ⟨g, gd, s.data.length, cd, rfl, rfl, rfl, by omega, by omega, hlen, own_cap hrol.t.data, gm, fun e => gm e.symm, lgd, lt_of_heap hrol.t.mem, hrol.t.data, fun j v hj hv => ?_, cell_of_heap hrol.t.mem 0, cell_of_heap hrol.t.mem 2, free_of_heap hrol.t.mem, hrol.t.olds u (by rw [hus]; simp), hdpos⟩
  have h1 := hlist.cells (g := g) rfl (us2.length * 3 + j) v (flat_at Un.cells 3 Un.three us.reverse us2.length u j v hhd hj hv)
  rw [add_mk, Nat.zero_add] at h1
  exact h1

theorem RolR.step {s0 s' : MSt RV} {u : Un RV} {us us2 : List (Un RV)} (h : RolR D w0 m r dv0 rv0 s0 us (u :: us2) ls p L S w s dv rv) (hr : Rol D w0 m r dv0 rv0 W s' us ls dv' rv' p L S) (e : s' = undo1 RV.nil u s) : RolR D w0 m r dv0 rv0 s0 us us2 ls p L S W s' dv' rv' := by
  obtain ⟨us1, hus⟩ := h.tail
  have h1 := h.rcy
  have h2 := h.len
  rw [List.length_cons] at h1
  subst e
  refine ⟨⟨us1 ++ [u], by rw [hus]; simp⟩, h.ok.2, h.go, ?_, ?_, hr⟩
  · cases u with
    | new h => simp only [undo1]; omega
    | recy h => simp only [undo1, List.length_append, List.length_singleton]; omega
    | upd h o => simp only [undo1]; omega
    | del h o => simp only [undo1, List.length_dropLast]; omega
  · cases u with
    | new h => simp only [undo1, List.length_dropLast]; omega
    | recy h => simpa only [undo1, List.length_set] using h2
    | upd h o => simpa only [undo1, List.length_set] using h2
    | del h o => simpa only [undo1, List.length_set] using h2

set_option maxRecDepth 100000 in
set_option maxHeartbeats 6400000 in
theorem rollback_any (h : MemX m s (us :: ls) M D w) (hok : okAll RV.nil us s) (hn : s.data.length ≤ 1000) (hq : s.rcy.length ≤ 1000) (hu : us.length ≤ 1000) (hls : ls.length ≤ 1000) :
    Calls Tryz.prog 53 #[.pointer (some ⟨m, 0, none⟩)] w (DoneX m (undoAll RV.nil us s) ls M D w) := by
  obtain ⟨r, dv, rv, p, L, S, hT, hM, hoff, hD⟩ := h.top
  obtain ⟨A3, c3, rfl⟩ := own_form hT.list
  obtain ⟨a0, rfl⟩ := hT.lev.ptr
  obtain ⟨n, hnn⟩ : ∃ n, n = us.length := ⟨_, rfl⟩
  obtain ⟨t, ht⟩ : ∃ t, t = ls.length := ⟨_, rfl⟩
  obtain ⟨t1, ht1⟩ : ∃ t1, t1 = t + 1 := ⟨_, rfl⟩
  have c3' : w.cell? ⟨m, 3, none⟩ = some (.int .i64 t1) := by rw [ht1, ht]; exact cell_of_heap hT.mem 3
  have c4 : w.cell? ⟨m, 4, none⟩ = some (.pointer (some ⟨r, 0, none⟩)) := cell_of_heap hT.mem 4
  have r0 : w.cell? ⟨r, 0, none⟩ = some (.slice A3 n c3) := by rw [hnn]; exact cell_of_heap hT.roll 0
  have hne : ((t1 : Int) == 0) = false := by
    have h0 : (t1 : Int) ≠ 0 := by rw [ht1]; exact Int.ofNat_ne_zero.2 (Nat.succ_ne_zero _)
    exact beq_eq_false_iff_ne.2 h0
  have hw0 : IntKind.i64.wrap ((n : Int) - 1) = (n : Int) - 1 := IntWalk.i64_in _ (by omega)
  have HR0 : Hid (RolR D w m r dv rv s us us ls (.pointer a0) (.slice A3 us.length c3) S w s dv rv) := Lib.hid ⟨⟨[], rfl⟩, hok, rfl, by omega, hn, Rol.start hT hoff hD⟩
  have HM := Lib.hid hM
  have HN := Lib.hid hnn
  have HT := Lib.hid ht
  have HT1 := Lib.hid ht1
  rw [← hnn] at hu
  rw [← ht] at hls
  rw [← hnn] at HR0 HM
  clear hT hM hoff hD h hok hn hq hnn ht ht1
  go_enter Tryz.func53, Tryz.ntmps53
  go_wp2_with fail
  go_loopw [4] (fun i wr => ∃ (z : Int) (q : Nat) (us2 : List (Un RV)) (s' : MSt RV) (dv' rv' : Value), i = .int .i64 z ∧ z + 1 = q ∧ us2.length = q ∧ RolR D w m r dv rv s us us2 ls (.pointer a0) (.slice A3 n c3) S wr s' dv' rv') (fun i _ => (intOf i + 1).toNat)
  case atStart => exact ⟨(n : Int) - 1, n, us, s, dv, rv, rfl, by omega, HN.out.symm, HR0.out⟩
  case round =>
    obtain ⟨z, q, us2, s', dv', rv', rfl, hz, hq2, hR⟩ := hrel
    have HH := Lib.hid hR
    cases us2 with
    | nil =>
      have hz0 : z = -1 := by simp at hq2; omega
      subst hz0
      have hrol := hR.rol
      have hgo : s' = undoAll RV.nil us s := hR.go
      have c3' : wr.cell? ⟨m, 3, none⟩ = some (.int .i64 t1) := by rw [HT1.out, HT.out]; exact cell_of_heap hrol.t.mem 3
      have c4 : wr.cell? ⟨m, 4, none⟩ = some (.pointer (some ⟨r, 0, none⟩)) := cell_of_heap hrol.t.mem 4
      have c1 : wr.cell? ⟨m, 1, none⟩ = some (.int .i64 0) := cell_of_heap hrol.t.mem 1
      have f3 : wr.frozen? ⟨m, 3, none⟩ = false := free_of_heap hrol.t.mem 3
      have f4 : wr.frozen? ⟨m, 4, none⟩ = false := free_of_heap hrol.t.mem 4
      have rr1 : wr.cell? ⟨r, 1, none⟩ = some (.pointer a0) := cell_of_heap hrol.t.roll 1
      have rr2 : wr.cell? ⟨r, 2, none⟩ = some (.int .i64 0) := cell_of_heap hrol.t.roll 2
      have hmr : m ≠ r := hrol.t.apart.mr
      have hrm : ¬ r = m := fun e => hmr e.symm
      have hw1 : IntKind.i64.wrap ((t1 : Int) - 1) = (t : Int) := by have := HT1.out; rw [IntWalk.i64_in _ (by omega)]; omega
      have HG := Lib.hid hgo
      clear hz hq2 hR hrol hgo
      go_wp2_with fail
      go_quiet (fail)
      all_goals
        go_wp2
        go_ret
        refine ⟨rfl, ?_⟩
        have hb : Below wr.heap.size wr (wr.drewN nq) := below_drewN (Below.refl _ _) _
        have hf := (HH.out.rol.below hb).fin HM.out HT.out
        rw [HG.out] at hf
        exact hf
    | cons u us2 =>
      obtain ⟨q', hq'⟩ : ∃ q', q' = us2.length := ⟨_, rfl⟩
      have hz0 := z_of hz hq2 hq'
      subst hz0
      obtain ⟨g, gd, nd, cd, rfl, rfl, hnd, hqn, hq9, hlen, hcap, gm, mg, lgd, lm, hda, hlc, m0, m2, fm, hro, hdpos⟩ := hR.cons HN.out hu hq'
      have hw1 := i64_pred q' (Nat.le_trans hq9 (by decide))
      have HND := Lib.hid hnd
      have HDA := Lib.hid hda
      have HQ := Lib.hid hq'
      have HRO := Lib.hid hro
      have HRY := Lib.hid hR.rol.t.rcy
      have HRB := Lib.hid hR.rcy
      have HOK := Lib.hid hR.ok
      obtain ⟨B, hB⟩ : ∃ B, B = wr.heap.size := ⟨_, rfl⟩
      have HBB := Lib.hid hB
      clear hz hq2 hR hnd hda hro hq'
      cases u with
      | new h =>
        have l0 : wr.cell? ⟨g, q' * 3, none⟩ = some (.int .i64 0) := hlc 0 _ (by decide) rfl
        have l1 : wr.cell? ⟨g, q' * 3 + 1, none⟩ = some (.int .i64 (h : Int)) := hlc 1 _ (by decide) rfl
        have l2 : wr.cell? ⟨g, q' * 3 + 2, none⟩ = some (.slice none 0 0) := hlc 2 _ (by decide) rfl
        obtain ⟨nx, hnx⟩ : ∃ nx, nd = nx + 1 := ⟨nd - 1, (Nat.succ_pred_eq_of_pos hdpos).symm⟩
        have hw2 : (nd : Int) - 1 = (nx : Int) := i64_pred2 hnx
        have hw3 : IntKind.i64.wrap ((nd : Int) - 1) = (nx : Int) := i64_pred3 hnx (Nat.le_trans hlen (by decide))
        have hw4 : wrap64 (nx : Int) = nx := w64_nat nx (by have h1 := hlen; rw [hnx] at h1; exact Nat.le_trans (Nat.le_of_succ_le h1) (by decide))
        have hncap : nx ≤ cd := by have h1 := hcap; rw [hnx] at h1; exact Nat.le_of_succ_le h1
        have HNX := Lib.hid hnx
        have f0 := fm 0
        clear hlc fm hnx hdpos m2
        go_wp2_with fail
        obtain ⟨w1, hw1'⟩ : ∃ w1, w1 = wr.alloc (.cells #[.int .i64 0, .int .i64 (h : Int), .slice none 0 0] 163) := ⟨_, rfl⟩
        rw [← hw1', ← hB]
        have HB1 : Hid (Below wr.heap.size wr w1) := Lib.hid (hw1' ▸ (Below.refl _ wr).alloc (Nat.le_refl _) _)
        have hnb : w1.heap[B]? = some (.cells #[.int .i64 0, .int .i64 (h : Int), .slice none 0 0] 163 (0, 0)) := by rw [hw1', hB]; exact heap_new wr _
        have b0 : w1.cell? ⟨B, 0, none⟩ = some (.int .i64 0) := cell_of_heap hnb 0
        have b1 : w1.cell? ⟨B, 1, none⟩ = some (.int .i64 (h : Int)) := cell_of_heap hnb 1
        have b2 : w1.cell? ⟨B, 2, none⟩ = some (.slice none 0 0) := cell_of_heap hnb 2
        have m0' : w1.cell? ⟨m, 0, none⟩ = some (.slice (some ⟨gd, 0, none⟩) nd cd) := (World.cell?_of_block (HB1.out.block m lm)).trans m0
        have f0' : w1.frozen? ⟨m, 0, none⟩ = false := (World.frozen?_of_block (HB1.out.block m lm)).trans f0
        clear hw1' hnb hB l0 l1 l2 m0 f0 hlen hcap hqn hq9 hu hls hne hw0 c3' c4 r0 gm mg lgd lm hw2
        go_quiet (fail)
        all_goals
          go_wp2
          refine ⟨⟨(q' : Int) - 1, q', us2, undo1 RV.nil (.new h) s', _, _, rfl, by rw [Int.sub_add_cancel], HQ.out.symm, HH.out.step ((HH.out.rol.below (below_drewN HB1.out nq)).new1 HND.out HNX.out rfl) rfl⟩, ?_⟩
          simp only [intOf]
          rw [Int.sub_add_cancel]
          exact meas_lt q'
      | recy h =>
        obtain ⟨A2, c2, rfl⟩ := own_form HRY.out
        obtain ⟨qr, hqr⟩ : ∃ qr, qr = s'.rcy.length := ⟨_, rfl⟩
        have HQR := Lib.hid hqr
        have hqb : qr ≤ 2000 := by rw [hqr]; exact Nat.le_trans (Nat.le_add_right _ _) HRB.out
        rw [← hqr] at m2 HH
        have HRW : Hid (wr.ownsRow 0 3 1 (.slice A2 qr c2) qr (s'.rcy.map natV)) := Lib.hid (by rw [hqr]; exact HRY.out)
        obtain ⟨i0, hi0, hz0, hz1, hz2⟩ := info_parts info_int
        have hmx : qr + 1 ≤ maxLen := Nat.le_trans (Nat.add_le_add_right hqb 1) (by decide)
        have hmy : (qr + 1) * 8 ≤ 140737488355328 := Nat.le_trans (Nat.mul_le_mul_right 8 (Nat.add_le_add_right hqb 1)) (by decide)
        have f2 := fm 2
        have hltn : h < nd := by rw [HND.out]; exact HOK.out.1
        obtain ⟨xv, hxv⟩ : ∃ x, (s'.data.map RV.val)[h]? = some x := ⟨_, List.getElem?_eq_getElem (by rw [List.length_map, ← HND.out]; exact hltn)⟩
        have hdc : wr.cell? ⟨gd, h, none⟩ = some xv := (HDA.out.cellAt h (by rw [Nat.mul_one]; exact hltn)).trans hxv
        have hdf : wr.frozen? ⟨gd, h, none⟩ = false := HDA.out.frozenAt h
        have l0 : wr.cell? ⟨g, q' * 3, none⟩ = some (.int .i64 1) := hlc 0 _ (by decide) rfl
        have l1 : wr.cell? ⟨g, q' * 3 + 1, none⟩ = some (.int .i64 (h : Int)) := hlc 1 _ (by decide) rfl
        have l2 : wr.cell? ⟨g, q' * 3 + 2, none⟩ = some (.slice none 0 0) := hlc 2 _ (by decide) rfl
        clear hlc fm hdpos hqr
        go_wp2_with fail
        obtain ⟨w1, hw1'⟩ : ∃ w1, w1 = wr.alloc (.cells #[.int .i64 1, .int .i64 (h : Int), .slice none 0 0] 163) := ⟨_, rfl⟩
        rw [← hw1', ← hB]
        have HB1 : Hid (Below wr.heap.size wr w1) := Lib.hid (hw1' ▸ (Below.refl _ wr).alloc (Nat.le_refl _) _)
        have hnb : w1.heap[B]? = some (.cells #[.int .i64 1, .int .i64 (h : Int), .slice none 0 0] 163 (0, 0)) := by rw [hw1', hB]; exact heap_new wr _
        have b0 : w1.cell? ⟨B, 0, none⟩ = some (.int .i64 1) := cell_of_heap hnb 0
        have b1 : w1.cell? ⟨B, 1, none⟩ = some (.int .i64 (h : Int)) := cell_of_heap hnb 1
        have b2 : w1.cell? ⟨B, 2, none⟩ = some (.slice none 0 0) := cell_of_heap hnb 2
        have m0' : w1.cell? ⟨m, 0, none⟩ = some (.slice (some ⟨gd, 0, none⟩) nd cd) := (World.cell?_of_block (HB1.out.block m lm)).trans m0
        have d0 : w1.cell? ⟨gd, h, none⟩ = some xv := (World.cell?_of_block (HB1.out.block gd lgd)).trans hdc
        have d1 : w1.frozen? ⟨gd, h, none⟩ = false := (World.frozen?_of_block (HB1.out.block gd lgd)).trans hdf
        have LM := Lib.hid lm
        have GM := Lib.hid (And.intro gm mg)
        have m2' : w1.cell? ⟨m, 2, none⟩ = some (.slice A2 qr c2) := (World.cell?_of_block (HB1.out.block m lm)).trans m2
        have f2' : w1.frozen? ⟨m, 2, none⟩ = false := (World.frozen?_of_block (HB1.out.block m lm)).trans f2
        have lm1 : m < w1.heap.size := Nat.lt_of_lt_of_le lm HB1.out.size
        have HAP : Hid ((Value.slice A2 qr c2).ownBlock ≠ some m ∧ (Value.slice A2 qr c2).ownBlock ≠ some gd) := Lib.hid ⟨HH.out.rol.t.apart.rm, HH.out.rol.t.apart.dc gd rfl⟩
        have HQA : Hid (∀ W, Chg (fun b => b = gd) w1 W → W.ownsRow 0 3 1 (.slice A2 qr c2) qr (s'.rcy.map natV)) := Lib.hid (fun W hc => own_chg (own_below HRW.out HB1.out) hc (fun b hb e => HAP.out.2 (by rw [hb, e])))
        clear hw1' hnb hB l0 l1 l2 m0 hlen hcap hqn hq9 hu hls hne hw0 c3' c4 r0 lgd lm hdc hdf hxv m2 f2
        go_quiet (fail)
        all_goals
          go_wp2_with (at_builtin
                       refine wpList_append_any _ rfl (.tmp 76) (.tmp 78) _ rfl 0 3 i0 _ 1 8 Tryz.underlying110 hi0 hz0 hz1 hz2 rfl (by decide) (.slice A2 qr c2) qr (s'.rcy.map natV) rfl ((HQA.out _ (Chg.setCell (Chg.of_below (S := fun b => b = gd) (below_drewN (Below.refl _ w1) nq)) (p := ⟨gd, h, none⟩) (.inl rfl) _)).alloc _) (w1.heap.size + 1) (some ⟨w1.heap.size, 0, none⟩) 1 1 [natV h] rfl (reads_at _ _ _ (by simp)) (fun u hu => by simp at hu; rw [hu]; rfl) hmx hmy (Nat.zero_le _) ?_
                       intro v3 w3 hown3 hg3 hat3
                       obtain ⟨A4, c5, rfl⟩ := own_form hown3
                       have HC3 : Hid (Chg (fun b => (Value.slice A2 qr c2).ownBlock = some b) ((w1.drewN nq).setCell ⟨gd, h, none⟩ (.slice none 0 0)) w3) := Lib.hid (((Chg.refl _ _).alloc _).next (Chg.of_grown hg3) (fun b _ hb => hb.symm))
                       have E3 : Hid (w3.heap[m]? = w1.heap[m]?) := Lib.hid ((HC3.out.block m (by simpa using lm1) (fun e => HAP.out.1 e)).trans ((heap_setCell_ne _ _ _ _ _ GM.out.2).trans (heap_drewN _ _ _)))
                       have m2b : w3.cell? ⟨m, 2, none⟩ = some (.slice A2 qr c2) := (World.cell?_of_block E3.out).trans m2'
                       have f2b : w3.frozen? ⟨m, 2, none⟩ = false := (World.frozen?_of_block E3.out).trans f2'
                       have HO3 := Lib.hid hown3
                       have HA3 := Lib.hid hat3
                       clear hown3 hg3 hat3)
          have R1 := (HH.out.rol.below (below_drewN HB1.out nq)).set (o := RV.nil) (hd := h) HND.out (RV.ok_nil _ _) rfl
          have R2 := R1.rpush (hd := h) (rv1 := .slice A4 (qr + 1) c5) HC3.out (by show World.ownsRow _ _ _ _ _ (s'.rcy.length + 1) _; rw [← HQR.out]; exact HO3.out) (fun b hb => HA3.out.elim (fun e => .inl (e ▸ hb)) (fun e => .inr (by rw [e] at hb; have := Option.some.inj hb; simp at this ⊢; omega))) rfl
          refine ⟨⟨(q' : Int) - 1, q', us2, undo1 RV.nil (.recy h) s', _, _, rfl, by rw [Int.sub_add_cancel], HQ.out.symm, HH.out.step (R2) rfl⟩, ?_⟩
          simp only [intOf]
          rw [Int.sub_add_cancel]
          exact meas_lt q'
      | upd h o =>
        obtain ⟨oA, ol, oc, hov⟩ : ∃ A l c, o.val = .slice A l c := ⟨_, _, _, rfl⟩
        have HOV := Lib.hid hov
        have hltn : h < nd := by rw [HND.out]; exact HOK.out.1
        obtain ⟨xv, hxv⟩ : ∃ x, (s'.data.map RV.val)[h]? = some x := ⟨_, List.getElem?_eq_getElem (by rw [List.length_map, ← HND.out]; exact hltn)⟩
        have hdc : wr.cell? ⟨gd, h, none⟩ = some xv := (HDA.out.cellAt h (by rw [Nat.mul_one]; exact hltn)).trans hxv
        have hdf : wr.frozen? ⟨gd, h, none⟩ = false := HDA.out.frozenAt h
        have l0 : wr.cell? ⟨g, q' * 3, none⟩ = some (.int .i64 2) := hlc 0 _ (by decide) rfl
        have l1 : wr.cell? ⟨g, q' * 3 + 1, none⟩ = some (.int .i64 (h : Int)) := hlc 1 _ (by decide) rfl
        have l2 : wr.cell? ⟨g, q' * 3 + 2, none⟩ = some (.slice oA ol oc) := hov ▸ hlc 2 _ (by decide) rfl
        clear hlc fm hdpos m2 hov
        go_wp2_with fail
        obtain ⟨w1, hw1'⟩ : ∃ w1, w1 = wr.alloc (.cells #[.int .i64 2, .int .i64 (h : Int), .slice oA ol oc] 163) := ⟨_, rfl⟩
        rw [← hw1', ← hB]
        have HB1 : Hid (Below wr.heap.size wr w1) := Lib.hid (hw1' ▸ (Below.refl _ wr).alloc (Nat.le_refl _) _)
        have hnb : w1.heap[B]? = some (.cells #[.int .i64 2, .int .i64 (h : Int), .slice oA ol oc] 163 (0, 0)) := by rw [hw1', hB]; exact heap_new wr _
        have b0 : w1.cell? ⟨B, 0, none⟩ = some (.int .i64 2) := cell_of_heap hnb 0
        have b1 : w1.cell? ⟨B, 1, none⟩ = some (.int .i64 (h : Int)) := cell_of_heap hnb 1
        have b2 : w1.cell? ⟨B, 2, none⟩ = some (.slice oA ol oc) := cell_of_heap hnb 2
        have m0' : w1.cell? ⟨m, 0, none⟩ = some (.slice (some ⟨gd, 0, none⟩) nd cd) := (World.cell?_of_block (HB1.out.block m lm)).trans m0
        have d0 : w1.cell? ⟨gd, h, none⟩ = some xv := (World.cell?_of_block (HB1.out.block gd lgd)).trans hdc
        have d1 : w1.frozen? ⟨gd, h, none⟩ = false := (World.frozen?_of_block (HB1.out.block gd lgd)).trans hdf
        have LM := Lib.hid lm
        have GM := Lib.hid (And.intro gm mg)
        clear hw1' hnb hB l0 l1 l2 m0 hlen hcap hqn hq9 hu hls hne hw0 c3' c4 r0 gm mg lgd lm hdc hdf hxv
        go_quiet (fail)
        all_goals
          go_wp2
          have R1 := (HH.out.rol.below (below_drewN HB1.out nq)).set (o := o) (hd := h) HND.out (RV.ok.chg HRO.out (Chg.of_below (S := fun _ => False) (below_drewN HB1.out nq)) (fun _ _ h => h)) rfl
          rw [HOV.out] at R1
          refine ⟨⟨(q' : Int) - 1, q', us2, undo1 RV.nil (.upd h o) s', _, _, rfl, by rw [Int.sub_add_cancel], HQ.out.symm, HH.out.step (R1) rfl⟩, ?_⟩
          simp only [intOf]
          rw [Int.sub_add_cancel]
          exact meas_lt q'
      | del h o =>
        obtain ⟨oA, ol, oc, hov⟩ : ∃ A l c, o.val = .slice A l c := ⟨_, _, _, rfl⟩
        have HOV := Lib.hid hov
        have hrp : 0 < s'.rcy.length := HOK.out.1.2
        obtain ⟨g2, c2, rfl, _, lg2⟩ := HRY.out.form hrp
        obtain ⟨qr, hqr⟩ : ∃ qr, qr = s'.rcy.length := ⟨_, rfl⟩
        obtain ⟨qx, hqx⟩ : ∃ qx, qr = qx + 1 := ⟨qr - 1, (Nat.succ_pred_eq_of_pos (hqr ▸ hrp)).symm⟩
        have HQR := Lib.hid hqr
        have HQX := Lib.hid hqx
        have hqb : qr ≤ 2000 := by rw [hqr]; exact Nat.le_trans (Nat.le_add_right _ _) HRB.out
        have hqc : qr ≤ c2 := by rw [hqr]; exact own_cap HRY.out
        rw [← hqr] at m2 HH
        have hx2 : (qr : Int) - 1 = (qx : Int) := i64_pred2 hqx
        have hx3 : IntKind.i64.wrap ((qr : Int) - 1) = (qx : Int) := i64_pred3 hqx (Nat.le_trans hqb (by decide))
        have hx5 : qx ≤ 2000 := by have h1 := hqb; rw [hqx] at h1; exact Nat.le_of_succ_le h1
        have hx4 : wrap64 (qx : Int) = qx := w64_nat qx (Nat.le_trans hx5 (by decide))
        have hxc : qx ≤ c2 := by have h1 := hqc; rw [hqx] at h1; exact Nat.le_of_succ_le h1
        have f2 := fm 2
        have hltn : h < nd := by rw [HND.out]; exact HOK.out.1.1
        obtain ⟨xv, hxv⟩ : ∃ x, (s'.data.map RV.val)[h]? = some x := ⟨_, List.getElem?_eq_getElem (by rw [List.length_map, ← HND.out]; exact hltn)⟩
        have hdc : wr.cell? ⟨gd, h, none⟩ = some xv := (HDA.out.cellAt h (by rw [Nat.mul_one]; exact hltn)).trans hxv
        have hdf : wr.frozen? ⟨gd, h, none⟩ = false := HDA.out.frozenAt h
        have l0 : wr.cell? ⟨g, q' * 3, none⟩ = some (.int .i64 3) := hlc 0 _ (by decide) rfl
        have l1 : wr.cell? ⟨g, q' * 3 + 1, none⟩ = some (.int .i64 (h : Int)) := hlc 1 _ (by decide) rfl
        have l2 : wr.cell? ⟨g, q' * 3 + 2, none⟩ = some (.slice oA ol oc) := hov ▸ hlc 2 _ (by decide) rfl
        clear hlc fm hdpos hov hqr hqx hrp
        go_wp2_with fail
        obtain ⟨w1, hw1'⟩ : ∃ w1, w1 = wr.alloc (.cells #[.int .i64 3, .int .i64 (h : Int), .slice oA ol oc] 163) := ⟨_, rfl⟩
        rw [← hw1', ← hB]
        have HB1 : Hid (Below wr.heap.size wr w1) := Lib.hid (hw1' ▸ (Below.refl _ wr).alloc (Nat.le_refl _) _)
        have hnb : w1.heap[B]? = some (.cells #[.int .i64 3, .int .i64 (h : Int), .slice oA ol oc] 163 (0, 0)) := by rw [hw1', hB]; exact heap_new wr _
        have b0 : w1.cell? ⟨B, 0, none⟩ = some (.int .i64 3) := cell_of_heap hnb 0
        have b1 : w1.cell? ⟨B, 1, none⟩ = some (.int .i64 (h : Int)) := cell_of_heap hnb 1
        have b2 : w1.cell? ⟨B, 2, none⟩ = some (.slice oA ol oc) := cell_of_heap hnb 2
        have m0' : w1.cell? ⟨m, 0, none⟩ = some (.slice (some ⟨gd, 0, none⟩) nd cd) := (World.cell?_of_block (HB1.out.block m lm)).trans m0
        have d0 : w1.cell? ⟨gd, h, none⟩ = some xv := (World.cell?_of_block (HB1.out.block gd lgd)).trans hdc
        have d1 : w1.frozen? ⟨gd, h, none⟩ = false := (World.frozen?_of_block (HB1.out.block gd lgd)).trans hdf
        have LM := Lib.hid lm
        have GM := Lib.hid (And.intro gm mg)
        have m2' : w1.cell? ⟨m, 2, none⟩ = some (.slice (some ⟨g2, 0, none⟩) qr c2) := (World.cell?_of_block (HB1.out.block m lm)).trans m2
        have f2' : w1.frozen? ⟨m, 2, none⟩ = false := (World.frozen?_of_block (HB1.out.block m lm)).trans f2
        clear hw1' hnb hB l0 l1 l2 m0 hlen hcap hqn hq9 hu hls hne hw0 c3' c4 r0 gm mg lgd lm hdc hdf hxv m2 f2 hqb hqc hx5 hx2
        go_quiet (fail)
        all_goals
          go_wp2_with fail
          obtain ⟨w2, hw2'⟩ : ∃ w2, w2 = (w1.drewN nq).setCell ⟨gd, h, none⟩ (.slice oA ol oc) := ⟨_, rfl⟩
          rw [← hw2']
          have E2 : w2.heap[m]? = w1.heap[m]? := by rw [hw2', heap_setCell_ne _ _ _ _ _ GM.out.2]; exact heap_drewN _ _ _
          have m2b : w2.cell? ⟨m, 2, none⟩ = some (.slice (some ⟨g2, 0, none⟩) qr c2) := (World.cell?_of_block E2).trans m2'
          have f2b : w2.frozen? ⟨m, 2, none⟩ = false := (World.frozen?_of_block E2).trans f2'
          have HW2 := Lib.hid hw2'
          clear hw2' E2 m2' f2' m0' b0 b1 b2 d0 d1
          go_still_tail 14, (by kernel_rfl)
          obtain ⟨w3, hw3⟩ : ∃ w3, w3 = w2.drew := ⟨_, rfl⟩
          change wpList _ _ _ _ _ w2.drew
          rw [← hw3]
          have m2c : w3.cell? ⟨m, 2, none⟩ = some (.slice (some ⟨g2, 0, none⟩) qr c2) := by rw [hw3]; exact m2b
          have f2c : w3.frozen? ⟨m, 2, none⟩ = false := by rw [hw3]; exact f2b
          have HW3 := Lib.hid hw3
          clear hw3 m2b f2b
          go_wp2
          have R1 := (HH.out.rol.below (below_drewN HB1.out nq)).set (o := o) (hd := h) HND.out (RV.ok.chg HRO.out (Chg.of_below (S := fun _ => False) (below_drewN HB1.out nq)) (fun _ _ h => h)) rfl
          rw [HOV.out, ← HW2.out] at R1
          have R2 := R1.below (Below.refl _ w2).drew
          rw [← HW3.out] at R2
          have R3 := R2.rpop1 (h := h) (o := o) HQR.out HQX.out rfl
          refine ⟨⟨(q' : Int) - 1, q', us2, undo1 RV.nil (.del h o) s', _, _, rfl, by rw [Int.sub_add_cancel], HQ.out.symm, HH.out.step (R3) rfl⟩, ?_⟩
          simp only [intOf]
          rw [Int.sub_add_cancel]
          exact meas_lt q'

end Go.Proofs.YtffgkocokkhahaaGreatDoor

/- The library's read lock, as this program has it. -/
namespace Go.Proofs.YtffgkocokkhahaaGreatDoor
open Go.RowKit

abbrev rwLink : Go.Conc.Locks.RwLink := { lock := 0, unlock := 0, ilock := 0, iunlock := 0, lockSlow := 0, unlockSlow := 0, disable := 98, enable := 101, acquire := 102, relMerge := 103, cas32 := 0, add32 := 120, tMutex := 118, tIMutex := 116, tPMutex := 205, tPIMutex := 0, tPI32 := 230, tUP := 204, tNoCopy := 113, tU32 := 114, rlock := 79, runlock := 80, wlock := 0, wunlock := 0, i32add := 99, raceRead := 97, release := 0, rUnlockSlow := 104, semacqR := 100, semacqW := 0, semrel := 122, sfatal := 121, tRW := 123, tPRW := 202, tAI32 := 121, tPAI32 := 228, tPU32 := 208, tANoCopy := 119 }
theorem rwCore : Go.Conc.Locks.RwCore Tryz.prog rwLink :=
  ⟨Tryz.func99, Tryz.func97, Tryz.func98, Tryz.func101, Tryz.func102, Tryz.func103, Tryz.func120, Tryz.underlying123, Tryz.runUnderlying123, Tryz.sizeOf123, Tryz.isAgg123, Tryz.zeroValue123, Tryz.underlying121, Tryz.runUnderlying121, Tryz.sizeOf121, Tryz.isAgg121, Tryz.zeroValue121, Tryz.underlying202, Tryz.runUnderlying202, Tryz.sizeOf202, Tryz.isAgg202, Tryz.zeroValue202, Tryz.underlying228, Tryz.runUnderlying228, Tryz.sizeOf228, Tryz.isAgg228, Tryz.zeroValue228, Tryz.underlying208, Tryz.runUnderlying208, Tryz.sizeOf208, Tryz.isAgg208, Tryz.zeroValue208, Tryz.underlying119, Tryz.runUnderlying119, Tryz.sizeOf119, Tryz.isAgg119, Tryz.zeroValue119, Tryz.underlying114, Tryz.runUnderlying114, Tryz.sizeOf114, Tryz.isAgg114, Tryz.zeroValue114, Tryz.underlying118, Tryz.runUnderlying118, Tryz.sizeOf118, Tryz.isAgg118, Tryz.zeroValue118, Tryz.underlying205, Tryz.runUnderlying205, Tryz.sizeOf205, Tryz.isAgg205, Tryz.zeroValue205, Tryz.underlying230, Tryz.runUnderlying230, Tryz.sizeOf230, Tryz.isAgg230, Tryz.zeroValue230, Tryz.underlying204, Tryz.runUnderlying204, Tryz.sizeOf204, Tryz.isAgg204, Tryz.zeroValue204, Tryz.underlying21, Tryz.runUnderlying21, Tryz.sizeOf21, Tryz.isAgg21, Tryz.zeroValue21, (by kernel_rfl), (by kernel_rfl)⟩
theorem rwRLib : Go.Conc.Locks.RwRLib Tryz.prog rwLink := ⟨rwCore, Tryz.func79, Tryz.func80⟩

end Go.Proofs.YtffgkocokkhahaaGreatDoor

/- (*mem).Read. -/
namespace Go.Proofs.YtffgkocokkhahaaGreatDoor
open Go.RowKit

theorem w32_1 : Go.RowKit.wrap32 (0 + 1) = 1 := by unfold Go.RowKit.wrap32; omega
theorem w32_0 : Go.RowKit.wrap32 (1 + -1) = 0 := by unfold Go.RowKit.wrap32; omega
theorem w32_up : ¬ Go.RowKit.wrap32 (0 + 1) < 0 := by rw [w32_1]; decide
theorem w32_dn : ¬ Go.RowKit.wrap32 (1 + -1) < 0 := by rw [w32_0]; decide

@[go_sem] theorem cols_nil (w : World) : (binOp .eql 165 (.slice none 0 0) (.slice none 0 0)).run Tryz.prog w = .ok (.bool true) w := by kernel_rfl

/-- What Read leaves: the row, copied; the store as it was. -/
def ReadP (m : Nat) (s : MSt RV) (ls : List (List (Un RV))) (M D : Nat → Prop) (l : List VV) (w : World) (y : Ending) (w' : World) : Prop :=
  ∃ vs, y = .returned (.tuple #[.slice (some ⟨w.heap.size, 0, none⟩) l.length l.length, .nilIface]) ∧ InsZ (fun k => w.heap.size ≤ k ∧ k < w'.heap.size) w' l (some ⟨w.heap.size, 0, none⟩) vs ∧ MemX m s ls M D w' ∧ Chg (fun b => b = m) w w'

theorem MemX.same {m : Nat} {s : MSt RV} {ls : List (List (Un RV))} {M D : Nat → Prop} {w W : World} (h : MemX m s ls M D w) (hk : Chg (fun b => b = m) w W) (hm : W.heap[m]? = w.heap[m]?) : MemX m s ls M D W := by
  obtain ⟨dv, rv, p, S, hA, hM⟩ := h.ex
  obtain ⟨n1, n2, n3, _⟩ := hA.apart
  have hDm : ∀ k, D k → ¬ k = m := fun k hk e => (h.dat k hk).2 ((hM k).2 (.inl e))
  exact ⟨⟨dv, rv, p, S, ⟨hm.trans hA.mem, own_chg hA.data hk (fun b hb e => n1 (by rw [hb, e])), own_chg hA.rcy hk (fun b hb e => n2 (by rw [hb, e])), fun x hx => (hA.rows x hx).chg hk hDm, hA.lev.chg hk (fun k hk e => n3 (e ▸ hk)) hDm⟩, hM⟩, fun k hk' => ⟨Nat.lt_of_lt_of_le (h.dat k hk').1 hk.size, (h.dat k hk').2⟩⟩

set_option maxRecDepth 100000 in
set_option maxHeartbeats 3200000 in
theorem read_any {m : Nat} {s : MSt RV} {ls : List (List (Un RV))} {M D : Nat → Prop} {w : World} (h : MemX m s ls M D w) {hd : Nat} {o : RV} (ho : s.data[hd]? = some o) (h1 : 1 ≤ hd) (hn : s.data.length ≤ 1000) (dst : Value) :
    Calls Tryz.prog 55 #[.pointer (some ⟨m, 0, none⟩), dst, .int .i64 hd, .slice none 0 0] w (ReadP m s ls M D o.l w) := by
  obtain ⟨dv, rv, p, S, hA, hM⟩ := h.ex
  have hlt := (List.getElem?_eq_some_iff.1 ho).1
  obtain ⟨gd, cd, rfl, _, lgd⟩ := hA.data.form (by omega)
  obtain ⟨n, hnn⟩ : ∃ n, n = s.data.length := ⟨_, rfl⟩
  obtain ⟨Ao, no, co, hov, hno⟩ : ∃ Ao no co, o = RV.mk o.l Ao co ∧ no = o.l.length := ⟨o.A, _, o.c, rfl, rfl⟩
  have gm : ¬ gd = m := fun e => hA.apart.1 (by rw [e]; rfl)
  have lm := lt_of_heap hA.mem
  have hDm : ∀ k, D k → ¬ k = m := fun k hk e => (h.dat k hk).2 ((hM k).2 (.inl e))
  have hok := hA.rows o (List.mem_of_getElem? ho)
  obtain ⟨⟨vs, hI⟩, hcc, hff, hll⟩ := hok
  have HM0 : Hid (w.heap[m]? = some (.cells #[.slice (some ⟨gd, 0, none⟩) n cd, .int .i64 0, rv, .int .i64 ((ls.length : Nat) : Int), p, .int .i32 0, .int .u32 0, .int .u32 0, .int .u32 0, .int .i32 0, .int .i32 0] 125 (0, 0))) := Lib.hid (by rw [hnn]; exact hA.mem)
  have hdc : w.cell? ⟨gd, hd, none⟩ = some (.slice Ao no co) := (hA.data.cellAt hd (by omega)).trans (by rw [List.getElem?_map, ho, Option.map_some, hov, hno]; rfl)
  have hne : ((hd : Int) != 0) = true := by
    have h0 : (hd : Int) ≠ 0 := by omega
    exact bne_iff_ne.2 h0
  have HC := Lib.hid (fun w' (hb : Chg (fun b => b = m) w w') => clone_any m o.l Ao co vs w' (by have := hI.chg hb hDm; rw [hov] at this; exact this) hcc hff (by omega))
  have HX := Lib.hid h
  have HN := Lib.hid hno
  have hltn : hd < n := by omega
  rw [← hnn] at hn
  unfold ReadP
  rw [← hno]
  rw [← hno] at HC
  clear hA hM hI hcc hff h ho hov hnn hDm hlt hno
  have x0 : w.cell? ⟨m, 5, none⟩ = some (.int .i32 0) := cell_of_heap HM0.out 5
  have x3 : w.cell? ⟨m, 5 + 3, none⟩ = some (.int .u32 0) := cell_of_heap HM0.out 8
  have x4 : w.cell? ⟨m, 5 + 4, none⟩ = some (.int .i32 0) := cell_of_heap HM0.out 9
  have f4 : w.frozen? ⟨m, 5 + 4, none⟩ = false := free_of_heap HM0.out 9
  go_enter_defers Tryz.func55, Tryz.ntmps55
  go_wp2_with (first
    | (go_at_call 79
       refine (Go.RwLone.rlock_open rwRLib m 5 0 _ _ _ x0 x3 x4 f4 w32_up).mono ?_
       rintro y w1 ⟨rfl, hw1⟩
       have HW1 : Hid (w1 = w.setCell ⟨m, 9, none⟩ (.int .i32 1)) := Lib.hid (by rw [w32_1] at hw1; exact hw1)
       have hk1 : Chg (fun b => b = m) w w1 := HW1.out ▸ chg_m m 9 _
       have hm1 : w1.heap[m]? = some (.cells #[.slice (some ⟨gd, 0, none⟩) n cd, .int .i64 0, rv, .int .i64 ((ls.length : Nat) : Int), p, .int .i32 0, .int .u32 0, .int .u32 0, .int .u32 0, .int .i32 1, .int .i32 0] 125 (0, 0)) := by rw [HW1.out, heap_setCell_at, HM0.out]; rfl
       have HM1 := Lib.hid hm1
       have HK1 := Lib.hid hk1
       have hs1 : w1.heap.size = w.heap.size := by rw [HW1.out]; simp
       have HS1 := Lib.hid hs1
       have y0 : w1.cell? ⟨m, 0, none⟩ = some (.slice (some ⟨gd, 0, none⟩) n cd) := cell_of_heap hm1 0
       have y1 : w1.cell? ⟨gd, hd, none⟩ = some (.slice Ao no co) := (World.cell?_of_block (hk1.block gd lgd gm)).trans hdc
       clear hw1 hk1 hm1 hs1)
    | (go_at_call 78
       refine (HC.out _ HK1.out).mono ?_
       rintro y w2 ⟨vs2, rfl, hI2, hb2⟩
       have HI2 := Lib.hid hI2
       have HB2 := Lib.hid hb2
       clear hI2 hb2))
  have hm2 := (HB2.out.block m (lt_of_heap HM1.out)).trans HM1.out
  have z0 : w2.cell? ⟨m, 5, none⟩ = some (.int .i32 0) := cell_of_heap hm2 5
  have z2 : w2.cell? ⟨m, 5 + 2, none⟩ = some (.int .u32 0) := cell_of_heap hm2 7
  have z4 : w2.cell? ⟨m, 5 + 4, none⟩ = some (.int .i32 1) := cell_of_heap hm2 9
  have zf : w2.frozen? ⟨m, 5 + 4, none⟩ = false := free_of_heap hm2 9
  refine leaves_cons (f := 80) (args := #[.pointer (some ⟨m, 5, none⟩)]) (by simp) (by simp [go_sem]) ?_
  refine (Go.RwLone.runlock_deferred rwRLib m 5 1 _ _ _ _ z0 z2 z4 zf w32_dn).mono ?_
  rintro e u' w'' ⟨rfl, rfl, hw3⟩
  have hw3' : w'' = w2.setCell ⟨m, 9, none⟩ (.int .i32 0) := by rw [w32_0] at hw3; exact hw3
  have hk3 : Chg (fun b => b = m) w2 w'' := hw3' ▸ chg_m m 9 _
  have hm3 : w''.heap[m]? = w.heap[m]? := by rw [hw3', heap_setCell_at, hm2, HM0.out]; rfl
  have hk : Chg (fun b => b = m) w w'' := (HK1.out.next (Chg.of_below (S := fun _ => False) HB2.out) (fun _ _ h => h.elim)).next hk3 (fun _ _ h => h)
  have hI3 := (HI2.out.chg hk3 (fun k hk e => by have := lt_of_heap HM1.out; omega)).mono (E := fun k => w.heap.size ≤ k ∧ k < w''.heap.size) (fun k hk => by have := hk3.size; have := HS1.out; omega)
  have hX := HX.out.same hk hm3
  have hs1 := HS1.out
  rw [hs1] at hI3
  simp [Leaves, settle, results, Tryz.results55, go_sem, hs1]
  exact ⟨HN.out.symm ▸ rfl, ⟨vs2, hI3⟩, hX, hk⟩

end Go.Proofs.YtffgkocokkhahaaGreatDoor

/- A new memory store: newMemStorage, ZZNewMem. -/
namespace Go.Proofs.YtffgkocokkhahaaGreatDoor
open Go.RowKit

theorem StepP.below {m : Nat} {s : MSt RV} {ls : List (List (Un RV))} {M D : Nat → Prop} {w w' : World} {B : Nat} (h : StepP m s ls M D w w') (hB : B ≤ w.heap.size) (hM : ∀ k, M k → B ≤ k) (hD : ∀ k, D k → B ≤ k) :
    ∃ M' D', MemX m s ls M' D' w' ∧ (∀ k, M' k → B ≤ k) ∧ (∀ k, D' k → B ≤ k) ∧ Chg (fun k => B ≤ k) w w' := by
  obtain ⟨M', D', h1, h2, _, h4, h5⟩ := h
  exact ⟨M', D', h1, fun k hk => (h4 k hk).elim (hM k) (fun h => by omega), fun k hk => (h5 k hk).elim (hD k) (fun h => by omega), h2.mono (fun k _ h => hM k h)⟩

def NewMemP (w : World) (y : Ending) (w' : World) : Prop :=
  ∃ m M D, y = .returned (.tuple #[.pointer (some ⟨m, 0, none⟩), .nilIface]) ∧ (∃ r : RV, r.l = [] ∧ MemX m ⟨[RV.nil, r], []⟩ [] M D w') ∧ (∀ k, M k → w.heap.size ≤ k) ∧ (∀ k, D k → w.heap.size ≤ k) ∧ Below w.heap.size w w'

set_option maxRecDepth 100000 in
set_option maxHeartbeats 3200000 in
theorem newMem_any (w : World) : Calls Tryz.prog 33 #[] w (NewMemP w) := by
  obtain ⟨W0, hW0⟩ : ∃ W0, W0 = (w.alloc (.cells #[.slice none 0 0] 87)).alloc (.cells #[.slice (some ⟨w.heap.size, 0, none⟩) 1 1, .int .i64 0, .slice none 0 0, .int .i64 0, .pointer none, .int .i32 0, .int .u32 0, .int .u32 0, .int .u32 0, .int .i32 0, .int .i32 0] 125) := ⟨_, rfl⟩
  have hA0 : W0.heap[w.heap.size]? = some (.cells #[.slice none 0 0] 87) := by rw [hW0]; exact (heap_alloc_ne _ _ _ (by simp)).trans (heap_new w _)
  have hM0 : MemL W0 (w.heap.size + 1) (.slice (some ⟨w.heap.size, 0, none⟩) 1 1) (.slice none 0 0) 0 (.pointer none) := by
    have := heap_new (w.alloc (.cells #[.slice none 0 0] 87)) (.cells #[.slice (some ⟨w.heap.size, 0, none⟩) 1 1, .int .i64 0, .slice none 0 0, .int .i64 0, .pointer none, .int .i32 0, .int .u32 0, .int .u32 0, .int .u32 0, .int .i32 0, .int .i32 0] 125)
    rw [hW0]
    simpa [MemL] using this
  have hD0 : W0.ownsRow 0 87 1 (.slice (some ⟨w.heap.size, 0, none⟩) 1 1) 1 [.slice none 0 0] := ⟨rfl, .inr ⟨w.heap.size, 1, _, rfl, Nat.zero_le _, hA0, Nat.le_refl _, by simp [maxLen], rfl, rfl⟩⟩
  have hB0 : Below w.heap.size w W0 := hW0 ▸ below_al2 w _ _
  have hs0 : W0.heap.size = w.heap.size + 2 := by rw [hW0]; simp
  have hX0 : MemX (w.heap.size + 1) ⟨[RV.nil], []⟩ [] (fun k => k = w.heap.size + 1 ∨ k = w.heap.size) (fun _ => False) W0 := by
    refine ⟨⟨_, _, _, _, ⟨hM0, hD0, World.ownsRow_nil _ _ _ _, fun r hr => ?_, .nil⟩, fun k => ?_⟩, fun k hk => hk.elim⟩
    · obtain rfl := List.mem_singleton.1 hr
      exact RV.ok_nil _ _
    · simp only [Mset, Value.ownBlock]
      constructor
      · rintro (h | h)
        · exact .inl h
        · exact .inr (.inl (by simp [h]))
      · rintro (h | h | h | h)
        · exact .inl h
        · exact .inr (by simpa using h.symm)
        · simp at h
        · exact h.elim
  have HX0 := Lib.hid hX0
  have HB0 := Lib.hid hB0
  have HS0 := Lib.hid hs0
  have HW0 := Lib.hid hW0.symm
  clear hA0 hM0 hD0 hX0 hB0 hs0 hW0
  go_enter Tryz.func33, Tryz.ntmps33
  go_wp2_with (first
    | (go_at_call 35
       rw [HW0.out]
       refine (begin_x HX0.out (by simp)).mono ?_
       rintro y w1 ⟨rfl, hst⟩
       have HST1 := Lib.hid (hst.below (B := w.heap.size) (by rw [HS0.out]; omega) (fun k hk => by omega) (fun k hk => hk.elim))
       clear hst)
    | (go_at_call 54
       obtain ⟨M1, D1, hx1, hM1, hD1, hc1⟩ := HST1.out
       have e1 : Hid (w.heap.size ≤ w1.heap.size) := Lib.hid (by have := hc1.size; rw [HS0.out] at this; omega)
       refine (create_new (l := []) hx1 rfl (InsZ.nil _ _) (fun j x h => (by simp at h)) (fun j x h => (by simp at h)) (by simp) (by simp) (by simp)).mono ?_
       rintro y w2 ⟨rfl, r1, hr1, hst⟩
       have HST2 := Lib.hid (hst.below (B := w.heap.size) e1.out hM1 hD1)
       have HC1 := Lib.hid hc1
       have HR1 := Lib.hid hr1
       clear hst hc1 hx1 hM1 hD1 hr1)
    | (go_at_call 52
       obtain ⟨M2, D2, hx2, hM2, hD2, hc2⟩ := HST2.out
       have e2 : Hid (w.heap.size ≤ w2.heap.size) := Lib.hid (by have := hc2.size; have := e1.out; omega)
       refine (commit_one hx2).mono ?_
       rintro y w3 ⟨rfl, hst⟩
       have HST3 := Lib.hid (hst.below (B := w.heap.size) e2.out hM2 hD2)
       have HC2 := Lib.hid hc2
       clear hst hc2 hx2 hM2 hD2))
  go_ret2
  obtain ⟨M3, D3, hx3, hM3, hD3, hc3⟩ := HST3.out
  refine ⟨w.heap.size + 1, M3, D3, rfl, ⟨r1, HR1.out, hx3⟩, hM3, hD3, ?_⟩
  have k0 : Chg (fun b => w.heap.size ≤ b) w w1 := (Chg.of_below HB0.out).next HC1.out (fun b _ h => h)
  have k1 : Chg (fun b => w.heap.size ≤ b) w w2 := k0.next HC2.out (fun b _ h => h)
  have k2 : Chg (fun b => w.heap.size ≤ b) w w3 := k1.next hc3 (fun b _ h => h)
  exact k2.below (Nat.le_refl _) (fun _ h => h)

set_option maxRecDepth 100000 in
set_option maxHeartbeats 3200000 in
theorem zzNewMem_any (w : World) : Calls Tryz.prog 30 #[] w (NewMemP w) := by
  go_enter Tryz.func30, Tryz.ntmps30
  go_wp2_with (go_at_call 33
               refine (newMem_any _).mono ?_
               rintro y w1 ⟨m, M, D, rfl, h1, h2, h3, h4⟩
               have H1 := Lib.hid h1
               have H2 := Lib.hid h2
               have H3 := Lib.hid h3
               have H4 := Lib.hid h4
               clear h1 h2 h3 h4)
  go_ret2
  exact ⟨m, M, D, rfl, H1.out, H2.out, H3.out, H4.out⟩

end Go.Proofs.YtffgkocokkhahaaGreatDoor

/- impl.indexWalk. -/
namespace Go.Proofs.YtffgkocokkhahaaGreatDoor
open Go.RowKit

theorem info_irow : (Tryz.prog.info? 65).map (fun i => (i.zero, i.size, i.bytes)) = some (some (.agg #[.slice none 0 0, .int .i64 0]), 2, 32) := by kernel_rfl

structure RowV where
  A : Option Addr
  c : Nat
  h : Int
  us : List VV
def RowV.cells (r : RowV) : List Value := [.slice r.A r.us.length r.c, .int .i64 r.h]

/-- A row that came out, of an entry. -/
structure RowOk (B : Nat) (w : World) (e : XE) (r : RowV) : Prop where
  h : r.h = e.h
  len : r.us.length = e.l.length
  outs : ∀ (j : Nat) (x u : VV), e.l[j]? = some x → r.us[j]? = some u → OutOf x u
  own : w.ownsRow B 57 5 (.slice r.A r.us.length r.c) r.us.length (flat VV.cells r.us)

@[go_sem] theorem meth_next (n : Nat) (p : Option Addr) (w : World) : (method (n + 1) 148 (.pointer p) "Next").run Tryz.prog w = .ok (151, .pointer p) w := by kernel_rfl
@[go_sem] theorem meth_prev (n : Nat) (p : Option Addr) (w : World) : (method (n + 1) 148 (.pointer p) "Prev").run Tryz.prog w = .ok (152, .pointer p) w := by kernel_rfl

theorem own_ge {w : World} {B : Nat} {e : TypeId} {size n : Nat} {v : Value} {xs : List Value} (h : w.ownsRow B e size v n xs) {b : Nat} (hb : v.ownBlock = some b) : B ≤ b := by
  rcases h.2 with ⟨h2, _⟩ | ⟨g, cap, cur, e1, e2, _⟩
  · rw [h2] at hb; cases hb
  · rw [e1] at hb
    have : g = b := by simpa [Value.ownBlock] using hb
    subst this
    exact e2
theorem own_mono {w : World} {B C : Nat} {e : TypeId} {size n : Nat} {v : Value} {xs : List Value} (h : w.ownsRow B e size v n xs) (hb : C ≤ B) : w.ownsRow C e size v n xs :=
  ⟨h.1, h.2.elim .inl (fun ⟨g, cap, cur, e1, e2, e3⟩ => .inr ⟨g, cap, cur, e1, Nat.le_trans hb e2, e3⟩)⟩
/-- Rows of two types lie apart. -/
theorem own_own {w : World} {B C : Nat} {e f : TypeId} {s t n m : Nat} {u v : Value} {xs ys : List Value} (h : w.ownsRow B e s u n xs) (g : w.ownsRow C f t v m ys) (hne : e ≠ f) : ∀ b, u.ownBlock = some b → v.ownBlock ≠ some b := by
  intro b hb
  rcases h.2 with ⟨h2, _⟩ | ⟨k, cap, cur, e1, e2, e3, _⟩
  · rw [h2] at hb; cases hb
  · rw [e1] at hb
    have : k = b := by simpa [Value.ownBlock] using hb
    subst this
    exact own_ne g e3 (fun h => hne h.symm)

theorem RowOk.chg {B : Nat} {S : Nat → Prop} {w w' : World} {e : XE} {r : RowV} (h : RowOk B w e r) (hc : Chg S w w') (hn : ∀ b, (Value.slice r.A r.us.length r.c).ownBlock = some b → ¬ S b) : RowOk B w' e r := ⟨h.h, h.len, h.outs, own_chg h.own hc hn⟩

def RowsOk (B : Nat) (w : World) (es : List XE) (rs : List RowV) : Prop := ∀ (j : Nat) (e : XE) (r : RowV), es[j]? = some e → rs[j]? = some r → RowOk B w e r

def WalkP (n : Int) (hit : Bool) (es : List XE) (b : Nat) (w : World) (y : Ending) (w' : World) : Prop :=
  ∃ R k rs, y = .returned (.agg #[.int .i64 0, .bool hit, R]) ∧ w'.ownsRow w.heap.size 65 2 R k (flat RowV.cells rs) ∧ rs.length = k ∧ k ≤ es.length ∧ (k : Int) ≤ n ∧ ((k : Int) = n ∨ k = es.length) ∧ RowsOk w.heap.size w' es rs ∧ Chg (fun x => x = b) w w'

theorem walk_kc2 {w1 w2 w3 : World} {a : Nat} {o : Obj} {R : Value} (HB2 : Below w1.heap.size w1 w2) (HG3 : (w2.alloc o).grownBy w3 R.ownBlock) (v : Value) :
    Chg (fun z => R.ownBlock = some z ∨ z = a) w1 (w3.setCell ⟨a, 2, none⟩ v) := by
  have k1 : Chg (fun z => R.ownBlock = some z ∨ z = a) w1 w3 := ((Chg.of_below HB2).alloc _).next (Chg.of_grown HG3) (fun z _ h => .inl h.symm)
  exact k1.setCell (p := ⟨a, 2, none⟩) (.inl (.inr rfl)) v
theorem walk_kc {wr w1 w2 w3 : World} {a b : Nat} {o : Obj} {R : Value} (HC1 : Chg (fun z => z = b) wr w1) (HB2 : Below w1.heap.size w1 w2) (HG3 : (w2.alloc o).grownBy w3 R.ownBlock) (v : Value) :
    Chg (fun z => z = b ∨ R.ownBlock = some z ∨ z = a) wr (w3.setCell ⟨a, 2, none⟩ v) :=
  (HC1.mono (fun _ _ h => .inl h)).next (walk_kc2 HB2 HG3 v) (fun _ _ h => .inr h)

theorem walk_step {n : Int} {hit : Bool} {es : List XE} {b k gg cap c2 : Nat} {w wr w1 w2 w3 : World} {rs : List RowV} {R : Value} {x : XE} {A2 : Option Addr} {us2 : List VV} {o : Obj} {It : Nat → World → Prop} {cs : Array Value} (lb : b < w.heap.size)
    (HA : wr.heap[w.heap.size]? = some (.cells cs 47 (0, 0))) (HB : wr.heap[w.heap.size + 1]? = some (.cells #[.int .i64 0, .bool hit, R] 47 (0, 0)))
    (HO : wr.ownsRow w.heap.size 65 2 R k (flat RowV.cells rs)) (HK : RowsOk w.heap.size wr es rs) (HW : Chg (fun z => z = b) w wr) (HRS : rs.length = k) (HX : es[k]? = some x) (hlt : k < es.length) (hkn : (k : Int) + 1 ≤ n)
    (kc : Chg (fun z => z = b ∨ R.ownBlock = some z ∨ z = w.heap.size + 1) wr (w3.setCell ⟨w.heap.size + 1, 2, none⟩ (.slice (some ⟨gg, 0, none⟩) (k + 1) cap)))
    (HB3 : w3.heap[w.heap.size + 1]? = some (.cells #[.int .i64 0, .bool hit, R] 47 (0, 0))) (HO1 : w1.ownsRow w.heap.size 65 2 R k (flat RowV.cells rs)) (HB1 : w1.heap[w.heap.size + 1]? = some (.cells #[.int .i64 0, .bool hit, R] 47 (0, 0)))
    (HO2 : w2.ownsRow w1.heap.size 57 5 (.slice A2 x.l.length c2) x.l.length (flat VV.cells us2)) (HL2 : us2.length = x.l.length) (HU2 : ∀ (j : Nat) (a u : VV), x.l[j]? = some a → us2[j]? = some u → OutOf a u)
    (HG3 : (w2.alloc o).grownBy w3 R.ownBlock) (HO3 : w3.ownsRow w.heap.size 65 2 (.slice (some ⟨gg, 0, none⟩) (k + 1) cap) (k + 1) (flat RowV.cells rs ++ [.slice A2 x.l.length c2, .int .i64 x.h])) (HI : It (k + 1) (w3.setCell ⟨w.heap.size + 1, 2, none⟩ (.slice (some ⟨gg, 0, none⟩) (k + 1) cap)))
    {E : Value} :
    (rs ++ [(⟨A2, c2, x.h, us2⟩ : RowV)]).length = k + 1 ∧ k + 1 ≤ es.length ∧ ((k + 1 : Nat) : Int) ≤ n ∧
      (w3.setCell ⟨w.heap.size + 1, 2, none⟩ (.slice (some ⟨gg, 0, none⟩) (k + 1) cap)).heap[w.heap.size]? = some (.cells cs 47 (0, 0)) ∧
      (w3.setCell ⟨w.heap.size + 1, 2, none⟩ (.slice (some ⟨gg, 0, none⟩) (k + 1) cap)).heap[w.heap.size + 1]? = some (.cells #[.int .i64 0, .bool hit, .slice (some ⟨gg, 0, none⟩) (k + 1) cap] 47 (0, 0)) ∧
      (w3.setCell ⟨w.heap.size + 1, 2, none⟩ (.slice (some ⟨gg, 0, none⟩) (k + 1) cap)).ownsRow w.heap.size 65 2 (.slice (some ⟨gg, 0, none⟩) (k + 1) cap) (k + 1) (flat RowV.cells (rs ++ [⟨A2, c2, x.h, us2⟩])) ∧
      RowsOk w.heap.size (w3.setCell ⟨w.heap.size + 1, 2, none⟩ (.slice (some ⟨gg, 0, none⟩) (k + 1) cap)) es (rs ++ [⟨A2, c2, x.h, us2⟩]) ∧
      Chg (fun z => z = b) w (w3.setCell ⟨w.heap.size + 1, 2, none⟩ (.slice (some ⟨gg, 0, none⟩) (k + 1) cap)) ∧
      ((Value.nilIface = .nilIface ∧ Value.int .i64 ((k : Int) + 1) = .int .i64 ((k + 1 : Nat) : Int) ∧ It (k + 1) (w3.setCell ⟨w.heap.size + 1, 2, none⟩ (.slice (some ⟨gg, 0, none⟩) (k + 1) cap))) ∨ (Value.nilIface = E ∧ k + 1 = es.length ∧ Value.int .i64 ((k : Int) + 1) = .int .i64 (((k + 1 : Nat) : Int) + 1))) := by
  have hAR : R.ownBlock ≠ some w.heap.size := own_ne HO HA (by decide)
  have hBR : R.ownBlock ≠ some (w.heap.size + 1) := own_ne HO1 HB1 (by decide)
  refine ⟨by simp [HRS], hlt, by push_cast; omega, heap_chg HA kc (by rintro (h | h | h); omega; exact hAR h; omega), heap_set HB3 2 _, ?_, ?_, ?_, .inl ⟨rfl, by push_cast; rfl, HI⟩⟩
  · have h1 := own_ne HO3 HB3 (by decide)
    have h2 := ownsRow_setCell_other HO3 (a := ⟨w.heap.size + 1, 2, none⟩) h1 (.slice (some ⟨gg, 0, none⟩) (k + 1) cap)
    rw [flat_append]
    have e1 : flat RowV.cells [(⟨A2, c2, x.h, us2⟩ : RowV)] = [.slice A2 x.l.length c2, .int .i64 x.h] := by simp [flat, RowV.cells, HL2]
    rw [e1]
    exact h2
  · intro j e r he hr
    have lA := lt_of_heap HB1
    rcases Nat.lt_or_ge j k with h | h
    · rw [List.getElem?_append_left (by omega)] at hr
      have hrow := HK j e r he hr
      refine hrow.chg kc (fun z hz hS => ?_)
      rcases hS with hS | hS | hS
      · have := own_ge hrow.own hz
        omega
      · exact own_own hrow.own HO (by decide) z hz hS
      · exact own_ne hrow.own HB (by decide) (by rw [hz, hS])
    · rw [List.getElem?_append_right (by omega), HRS] at hr
      have hj : j = k := by
        rcases Nat.eq_or_lt_of_le h with h | h
        · exact h.symm
        · rw [List.getElem?_eq_none (by simp; omega)] at hr
          cases hr
      subst hj
      rw [Nat.sub_self] at hr
      obtain rfl : (⟨A2, c2, x.h, us2⟩ : RowV) = r := Option.some.inj hr
      obtain rfl : e = x := Option.some.inj (he.symm.trans HX)
      refine ⟨rfl, HL2, HU2, ?_⟩
      show World.ownsRow _ _ _ _ (.slice A2 us2.length c2) us2.length (flat VV.cells us2)
      rw [HL2]
      have k1 : Chg (fun z => R.ownBlock = some z ∨ z = w.heap.size + 1) w2 w3 := ((Chg.refl _ w2).alloc _).next (Chg.of_grown HG3) (fun z _ h => .inl h.symm)
      refine own_chg (own_mono HO2 (by omega)) (k1.setCell (p := ⟨w.heap.size + 1, 2, none⟩) (.inl (.inr rfl)) _) (fun z hz hS => ?_)
      have hge := own_ge HO2 hz
      rcases hS with hS | hS
      · have := own_lt HO1 hS
        omega
      · omega
  · exact HW.next kc (fun z hz h => by
      rcases h with h | h | h
      · exact h
      · have := own_ge HO h; omega
      · omega)

theorem walk_fin {n : Int} {hit : Bool} {es : List XE} {b k : Nat} {w wr W : World} {rs : List RowV} {R : Value} {cs : Array Value} (hA : wr.heap[w.heap.size]? = some (.cells cs 47 (0, 0)))
    (hown : wr.ownsRow w.heap.size 65 2 R k (flat RowV.cells rs)) (hok : RowsOk w.heap.size wr es rs) (hW : Chg (fun x => x = b) w wr) (hc : Chg (fun x => x = w.heap.size) wr W) (hrs : rs.length = k) (hk : k ≤ es.length) (hkn : (k : Int) ≤ n) (hor : (k : Int) = n ∨ k = es.length) :
    WalkP n hit es b w (.returned (.agg #[.int .i64 0, .bool hit, R])) W := by
  refine ⟨R, k, rs, rfl, own_chg hown hc (fun x hx h => own_ne hown hA (by decide) (by rw [hx, h])), hrs, hk, hkn, hor, fun j e r he hr => (hok j e r he hr).chg hc (fun x hx h => own_ne (hok j e r he hr).own hA (by decide) (by rw [hx, h])), hW.next hc (fun x hx h => by omega)⟩

set_option maxRecDepth 100000 in
set_option maxHeartbeats 3200000 in
theorem walk_next (b : Nat) (n : Int) (hit : Bool) (es : List XE) (It : Nat → World → Prop) (E : Value) (w : World) (h0 : 0 ≤ n) (h1 : n ≤ 1000000) (lb : b < w.heap.size) (hE : ∃ a, E = .iface 194 (.pointer (some a))) (hI : It 0 w)
    (HS : Hid (∀ k x w1, Chg (fun x => x = b) w w1 → It k w1 → es[k]? = some x → Calls Tryz.prog 151 #[.pointer (some ⟨b, 0, none⟩)] w1 (Got2 x b (It (k + 1)) w1)))
    (HE : Hid (∀ w1, Chg (fun x => x = b) w w1 → It es.length w1 → Calls Tryz.prog 151 #[.pointer (some ⟨b, 0, none⟩)] w1 (fun y w' => y = .returned (.tuple #[.slice none 0 0, .int .i64 (-1), E]) ∧ Below w1.heap.size w1 w')))
    (HC : Hid (∀ k w1 w2 (S : Nat → Prop), It k w1 → Chg S w1 w2 → ¬ S b → It k w2))
    (HD : Hid (∀ (k : Nat) (x : XE) (w1 : World), Chg (fun x => x = b) w w1 → es[k]? = some x → Calls Tryz.prog 56 #[.slice x.A x.m x.p] w1 (OutsPost x.l w1))) :
    Calls Tryz.prog 45 #[.iface 148 (.pointer (some ⟨b, 0, none⟩)), .nilIface, .int .i64 n, .bool true, .bool hit] w (WalkP n hit es b w) := by
  obtain ⟨i0, hi, hz0, hz1, hz2⟩ := info_parts info_irow
  obtain ⟨aE, rfl⟩ := hE
  have HI := Lib.hid hI
  clear hI
  go_enter Tryz.func45, Tryz.ntmps45
  go_wp2
  go_loopw [1, 12] (fun er i wr => ∃ (k : Nat) (rs : List RowV) (R : Value), rs.length = k ∧ k ≤ es.length ∧ (k : Int) ≤ n ∧
      wr.heap[w.heap.size]? = some (.cells #[.int .i64 0, .bool false, .slice none 0 0] 47 (0, 0)) ∧ wr.heap[w.heap.size + 1]? = some (.cells #[.int .i64 0, .bool hit, R] 47 (0, 0)) ∧
      wr.ownsRow w.heap.size 65 2 R k (flat RowV.cells rs) ∧ RowsOk w.heap.size wr es rs ∧ Chg (fun x => x = b) w wr ∧
      ((er = .nilIface ∧ i = .int .i64 k ∧ It k wr) ∨ (er = .iface 194 (.pointer (some aE)) ∧ k = es.length ∧ i = .int .i64 (k + 1)))) (fun _ i _ => (n + 2 - intOf i).toNat)
  case atStart =>
    refine ⟨0, [], .slice none 0 0, rfl, Nat.zero_le _, h0, ?_, ?_, World.ownsRow_nil _ _ _ _, fun j e r _ h => by simp at h, ((Chg.refl _ _).alloc _).alloc _, .inl ⟨rfl, rfl, HC.out 0 w _ (fun _ => False) HI.out (((Chg.refl _ _).alloc _).alloc _) id⟩⟩
    · exact (heap_alloc_ne _ _ _ (by simp)).trans (heap_new w _)
    · have := heap_new (w.alloc (.cells #[.int .i64 0, .bool false, .slice none 0 0] 47)) (.cells #[.int .i64 0, .bool hit, .slice none 0 0] 47)
      simpa using this
  case round =>
    obtain ⟨k, rs, R, hrs, hk, hkn, hA, hB, hown, hok, hch, hor⟩ := hrel
    have HA := Lib.hid hA
    have HB := Lib.hid hB
    have HO := Lib.hid hown
    have HK := Lib.hid hok
    have HW := Lib.hid hch
    have HRS := Lib.hid hrs
    have hs := hch.size
    clear hA hB hown hok hch hrs
    rcases hor with ⟨rfl, rfl, hI⟩ | ⟨rfl, hke, rfl⟩
    · by_cases hlt : (k : Int) < n
      · have b2 : wr.cell? ⟨w.heap.size + 1, 2, none⟩ = some R := cell_of_heap HB.out 2
        have g2 : wr.frozen? ⟨w.heap.size + 1, 2, none⟩ = false := free_of_heap HB.out 2
        have hkw : IntKind.i64.wrap ((k : Int) + 1) = (k : Int) + 1 := IntWalk.i64_in _ (by omega)
        rcases Nat.lt_or_ge k es.length with hlt2 | hge
        · obtain ⟨x, hx⟩ : ∃ x, es[k]? = some x := ⟨_, List.getElem?_eq_getElem hlt2⟩
          have HX := Lib.hid hx
          have HN := Lib.hid (HS.out k x wr HW.out hI hx)
          clear hx hI b2 g2
          go_wp2_with (go_at_call 151
                       refine HN.out.mono ?_
                       rintro y w1 ⟨rfl, hI1, hc1⟩
                       have HI1 := Lib.hid hI1
                       have HC1 := Lib.hid hc1
                       have hs1 := hc1.size
                       clear hI1 hc1)
          have hW1 : Chg (fun z => z = b) w w1 := HW.out.trans HC1.out
          have HW1 := Lib.hid hW1
          have HA1 := Lib.hid (heap_chg HA.out HC1.out (by omega))
          have HB1 := Lib.hid (heap_chg HB.out HC1.out (by omega))
          have HO1 := Lib.hid (own_chg HO.out HC1.out (fun z hz h => by have := own_ge HO.out hz; omega))
          have lA := lt_of_heap HB1.out
          have b2 : w1.cell? ⟨w.heap.size + 1, 2, none⟩ = some R := cell_of_heap HB1.out 2
          clear hW1
          go_region_law
            (first
              | (refine step_append_lies _ (by rfl) _ _ _ (by rfl) w.heap.size 65 i0 _ 2 32 Tryz.underlying37 hi hz0 hz1 hz2 rfl (by omega) R k (flat RowV.cells rs) (by rfl) ((own_below HO1.out HB2.out).alloc _)
                  ⟨w2.heap.size, 0, none⟩ 1 1 [.slice A2 x.l.length c2, .int .i64 x.h] (by rfl) (by rfl) (World.news_of_block (cs := #[.slice A2 x.l.length c2, .int .i64 x.h]) (t := 65) (fr := (0, 0)) (heap_new w2 _)) (by simp [Value.oneCell'])
                  (by omega) (by simp only [maxLen]; omega) (by omega) (by have := HB2.out.size; simp; omega) (w2.heap.size + 1) (by simp) ?_
                 intro gg cap w3 hown3 hgrow hat hlt
                 have HG3 := Lib.hid hgrow
                 have HO3 := Lib.hid hown3
                 have HB3 : Hid (w3.heap[w.heap.size + 1]? = some (.cells #[.int .i64 0, .bool hit, R] 47 (0, 0))) := Lib.hid ((hgrow.block _ (by have := HB2.out.size; simp; omega) (Ne.symm (own_ne HO1.out HB1.out (by decide)))).trans ((heap_alloc_ne _ _ _ (by have := HB2.out.size; omega)).trans ((HB2.out.block _ lA).trans HB1.out)))
                 have c3 : w3.cell? ⟨w.heap.size + 1, 2, none⟩ = some R := cell_of_heap HB3.out 2
                 have f3 : w3.frozen? ⟨w.heap.size + 1, 2, none⟩ = false := free_of_heap HB3.out 2
                 clear hgrow hown3)
              | (go_simp; go_at_call 56
                 refine (HD.out k x _ (by first | exact HW1.out | exact HW1.out.drew) HX.out).mono ?_
                 rintro y w2 ⟨A2, c2, us2, rfl, hown2, hlen2, hout2, hb2⟩
                 have HB2 : Hid (Below w1.heap.size w1 w2) := (by first | exact Lib.hid hb2 | exact Lib.hid ⟨hb2.os, hb2.tape, hb2.output, hb2.size, hb2.block⟩)
                 have HO2 : Hid (w2.ownsRow w1.heap.size 57 5 (.slice A2 x.l.length c2) x.l.length (flat VV.cells us2)) := Lib.hid hown2
                 have HL2 := Lib.hid hlen2
                 have HU2 := Lib.hid hout2
                 have d2 : w2.cell? ⟨w.heap.size + 1, 2, none⟩ = some R := (World.cell?_of_block (HB2.out.block _ lA)).trans b2
                 have d3 : (w2.alloc (.cells #[.slice A2 x.l.length c2, .int .i64 x.h] 65)).cell? ⟨w.heap.size + 1, 2, none⟩ = some R := (World.cell?_of_block (heap_alloc_ne w2 (w.heap.size + 1) _ (by have := HB2.out.size; omega))).trans d2
                 clear hb2 hown2 hlen2 hout2))
          all_goals
            go_wp2
            have kc := walk_kc (a := w.heap.size + 1) HC1.out HB2.out HG3.out (.slice (some ⟨gg, 0, none⟩) (k + 1) cap)
            exact ⟨⟨k + 1, rs ++ [⟨A2, c2, x.h, us2⟩], .slice (some ⟨gg, 0, none⟩) (k + 1) cap, walk_step lb HA.out HB.out HO.out HK.out HW.out HRS.out HX.out hlt2 (by omega) kc HB3.out HO1.out HB1.out HO2.out HL2.out HU2.out HG3.out HO3.out (HC.out (k + 1) w1 _ _ HI1.out (walk_kc2 (a := w.heap.size + 1) HB2.out HG3.out _) (by rintro (h | h); exact absurd (own_ge HO1.out h) (by omega); omega))⟩, by simp [intOf]; omega⟩
        · have hke : k = es.length := by omega
          have HN := Lib.hid (HE.out wr HW.out (hke ▸ hI))
          clear hI
          go_wp2_with (go_at_call 151
                       refine HN.out.mono ?_
                       rintro y w1 ⟨rfl, hb1⟩
                       have HB1 := Lib.hid hb1
                       have hs1 := hb1.size
                       clear hb1)
          exact ⟨⟨k, rs, R, HRS.out, hk, hkn, heap_below HA.out HB1.out, heap_below HB.out HB1.out, own_below HO.out HB1.out, fun j e r he hr => (HK.out j e r he hr).chg (Chg.of_below (S := fun _ => False) HB1.out) (fun _ _ h => h), HW.out.trans (Chg.of_below HB1.out), .inr ⟨rfl, hke, by rw [hke]⟩⟩, by simp [intOf]; omega⟩
      · obtain ⟨A', c', rfl⟩ := own_form HO.out
        have a0 := cell_of_heap HA.out 0
        have a1 := cell_of_heap HA.out 1
        have a2 := cell_of_heap HA.out 2
        have b0 := cell_of_heap HB.out 0
        have b1 := cell_of_heap HB.out 1
        have b2 := cell_of_heap HB.out 2
        have g0 := free_of_heap HA.out 0
        have g1 := free_of_heap HA.out 1
        have g2 := free_of_heap HA.out 2
        have hn' := hk
        go_wp2
        obtain ⟨W, hW⟩ : ∃ W, W = ((wr.setCell ⟨w.heap.size, 0, none⟩ (.int .i64 0)).setCell ⟨w.heap.size, 1, none⟩ (.bool hit)).setCell ⟨w.heap.size, 2, none⟩ (.slice A' k c') := ⟨_, rfl⟩
        rw [← hW]
        have hh : W.heap[w.heap.size]? = some (.cells #[.int .i64 0, .bool hit, .slice A' k c'] 47 (0, 0)) := by rw [hW, heap_setCell_at, heap_setCell_at, heap_setCell_at, HA.out]; rfl
        have d0 : W.cell? ⟨w.heap.size, 0, none⟩ = some (.int .i64 0) := cell_of_heap hh 0
        have d1 : W.cell? ⟨w.heap.size, 1, none⟩ = some (.bool hit) := cell_of_heap hh 1
        have d2 : W.cell? ⟨w.heap.size, 2, none⟩ = some (.slice A' k c') := cell_of_heap hh 2
        refine bodyPost_ret (v := .agg #[.int .i64 0, .bool hit, .slice A' k c']) (by simp [results, Tryz.results45, go_sem, d0, d1, d2]) rfl ?_
        exact walk_fin HA.out HO.out HK.out HW.out (hW ▸ Chg.setCell (Chg.setCell (Chg.setCell (Chg.refl (fun x => x = w.heap.size) wr) (p := ⟨w.heap.size, _, none⟩) (.inl rfl) _) (p := ⟨w.heap.size, _, none⟩) (.inl rfl) _) (p := ⟨w.heap.size, _, none⟩) (.inl rfl) _) HRS.out hk hkn (by omega)
    · subst hke
      obtain ⟨A', c', rfl⟩ := own_form HO.out
      have a0 := cell_of_heap HA.out 0
      have a1 := cell_of_heap HA.out 1
      have a2 := cell_of_heap HA.out 2
      have b0 := cell_of_heap HB.out 0
      have b1 := cell_of_heap HB.out 1
      have b2 := cell_of_heap HB.out 2
      have g0 := free_of_heap HA.out 0
      have g1 := free_of_heap HA.out 1
      have g2 := free_of_heap HA.out 2
      have hn' := hk
      go_wp2
      obtain ⟨W, hW⟩ : ∃ W, W = ((wr.setCell ⟨w.heap.size, 0, none⟩ (.int .i64 0)).setCell ⟨w.heap.size, 1, none⟩ (.bool hit)).setCell ⟨w.heap.size, 2, none⟩ (.slice A' es.length c') := ⟨_, rfl⟩
      rw [← hW]
      have hh : W.heap[w.heap.size]? = some (.cells #[.int .i64 0, .bool hit, .slice A' es.length c'] 47 (0, 0)) := by rw [hW, heap_setCell_at, heap_setCell_at, heap_setCell_at, HA.out]; rfl
      have d0 : W.cell? ⟨w.heap.size, 0, none⟩ = some (.int .i64 0) := cell_of_heap hh 0
      have d1 : W.cell? ⟨w.heap.size, 1, none⟩ = some (.bool hit) := cell_of_heap hh 1
      have d2 : W.cell? ⟨w.heap.size, 2, none⟩ = some (.slice A' es.length c') := cell_of_heap hh 2
      refine bodyPost_ret (v := .agg #[.int .i64 0, .bool hit, .slice A' es.length c']) (by simp [results, Tryz.results45, go_sem, d0, d1, d2]) rfl ?_
      exact walk_fin HA.out HO.out HK.out HW.out (hW ▸ Chg.setCell (Chg.setCell (Chg.setCell (Chg.refl (fun x => x = w.heap.size) wr) (p := ⟨w.heap.size, _, none⟩) (.inl rfl) _) (p := ⟨w.heap.size, _, none⟩) (.inl rfl) _) (p := ⟨w.heap.size, _, none⟩) (.inl rfl) _) HRS.out hk hkn (by omega)

end Go.Proofs.YtffgkocokkhahaaGreatDoor

/- Deeds to a memory store and their answers, in memory. -/
namespace Go.Proofs.YtffgkocokkhahaaGreatDoor
open Go.RowKit

def beginS : ByteArray := ⟨#[98, 101, 103, 105, 110]⟩
def commitS : ByteArray := ⟨#[99, 111, 109, 109, 105, 116]⟩
def rollbackS : ByteArray := ⟨#[114, 111, 108, 108, 98, 97, 99, 107]⟩
def mcreateS : ByteArray := ⟨#[99, 114, 101, 97, 116, 101]⟩
def readS : ByteArray := ⟨#[114, 101, 97, 100]⟩
def updateS : ByteArray := ⟨#[117, 112, 100, 97, 116, 101]⟩
def deleteS : ByteArray := ⟨#[100, 101, 108, 101, 116, 101]⟩

structure MDV where
  op : ByteArray
  h : Int
  A : Option Addr
  c : Nat
  us : List VV
def MDV.cells (d : MDV) : List Value := [.string d.op, .int .i64 d.h, .slice d.A d.us.length d.c]
theorem MDV.three (d : MDV) : d.cells.length = 3 := rfl

structure MAV where
  err : Nat
  h : Nat
  R : Value
  us : List VV
def MAV.cells (a : MAV) : List Value := [.int .i64 a.err, .int .i64 a.h, a.R]
theorem MAV.three (a : MAV) : a.cells.length = 3 := rfl

/-- An answer is what the plain store tells. -/
structure AnsOk (B : Nat) (w : World) (a : MAV) (x : MAn (List VV)) : Prop where
  err : a.err = x.err
  h : a.h = x.h
  len : a.us.length = x.row.length
  own : w.ownsRow B 57 5 a.R a.us.length (flat VV.cells a.us)
  outs : ∀ (j : Nat) (v u : VV), x.row[j]? = some v → a.us[j]? = some u → OutOf v u

theorem AnsOk.plain (B : Nat) (w : World) (e h : Nat) : AnsOk B w ⟨e, h, .slice none 0 0, []⟩ ⟨e, h, []⟩ := ⟨rfl, rfl, rfl, World.ownsRow_nil _ _ _ _, fun j v u hv => by simp at hv⟩
theorem AnsOk.chg {B : Nat} {S : Nat → Prop} {w w' : World} {a : MAV} {x : MAn (List VV)} (h : AnsOk B w a x) (hc : Chg S w w') (hn : ∀ b, a.R.ownBlock = some b → ¬ S b) : AnsOk B w' a x :=
  ⟨h.err, h.h, h.len, own_chg h.own hc hn, h.outs⟩
theorem AnsOk.mono {B C : Nat} {w : World} {a : MAV} {x : MAn (List VV)} (h : AnsOk B w a x) (hb : C ≤ B) : AnsOk C w a x := ⟨h.err, h.h, h.len, own_mono h.own hb, h.outs⟩

/-- What a deed leaves. -/
def MDeedP (m n : Nat) (c : MC (List VV)) (d : MD (List VV)) (M D : Nat → Prop) (w : World) (y : Ending) (w' : World) : Prop :=
  ∃ (a : MAV) (s' : MSt RV) (ls' : List (List (Un RV))) (M' D' : Nat → Prop), y = .returned (.agg #[.int .i64 a.err, .int .i64 a.h, a.R]) ∧ AnsOk w.heap.size w' a (ans [] c d) ∧ MemX m s' ls' M' D' w' ∧ Sim RV.nil RV.l (n + 1) s' ls' (nxt [] c d) ∧ Chg M w w' ∧ (∀ k, D k → D' k) ∧ (∀ k, M' k → M k ∨ w.heap.size ≤ k) ∧ (∀ k, D' k → D k ∨ w.heap.size ≤ k) ∧ ∀ b, a.R.ownBlock = some b → D' b

theorem mdeed_fin {m B : Nat} {s s' : MSt RV} {ls ls' : List (List (Un RV))} {M D D1 : Nat → Prop} {w w1 w2 W : World} (hX : MemX m s ls M D w) (hb : Below w.heap.size w w1) (hB : B = w.heap.size + 1) (hB1 : B < w1.heap.size) (hDD : ∀ k, D k → D1 k) (hD1 : ∀ k, D1 k → D k ∨ (w.heap.size ≤ k ∧ k ≠ B))
    (hst : StepP m s' ls' M D1 w1 w2) (hW : Chg (fun k => k = B) w2 W) : ∃ M' D', MemX m s' ls' M' D' W ∧ Chg M w W ∧ (∀ k, D k → D' k) ∧ (∀ k, M' k → M k ∨ w.heap.size ≤ k) ∧ ∀ k, D' k → D k ∨ w.heap.size ≤ k := by
  obtain ⟨M', D', h1, h2, h3, h4, h5⟩ := hst
  have hs := hb.size
  have hMn : ∀ k, M k → k < w.heap.size := fun k hk => hX.lt hk
  refine ⟨M', D', h1.chg hW (fun k hk e => ?_) (fun k hk e => ?_), ?_, fun k hk => h3 k (hDD k hk), fun k hk => (h4 k hk).imp id (fun h => by omega), fun k hk => ?_⟩
  · rcases h4 k hk with h | h
    · have := hMn k h; omega
    · omega
  · rcases h5 k hk with h | h
    · rcases hD1 k h with h | h
      · have := (hX.dat k h).1; omega
      · exact h.2 e
    · omega
  · exact ((Chg.of_below (S := M) hb).next h2 (fun k _ h => h)).next hW (fun k h e => by omega)
  · rcases h5 k hk with h | h
    · exact (hD1 k h).imp id (fun h => h.1)
    · exact .inr (by omega)

/-- A deed that tells no row. -/
theorem mdeed_plain {m n e h B : Nat} {c : MC (List VV)} {d : MD (List VV)} {s s' : MSt RV} {ls ls' : List (List (Un RV))} {M D D1 : Nat → Prop} {w w1 w2 W : World} (hX : MemX m s ls M D w) (hb : Below w.heap.size w w1) (hB : B = w.heap.size + 1) (hB1 : B < w1.heap.size) (hDD : ∀ k, D k → D1 k) (hD1 : ∀ k, D1 k → D k ∨ (w.heap.size ≤ k ∧ k ≠ B))
    (hst : StepP m s' ls' M D1 w1 w2) (hW : Chg (fun k => k = B) w2 W) (hS : Sim RV.nil RV.l (n + 1) s' ls' (nxt [] c d)) (ha : ans [] c d = ⟨e, h, []⟩) : MDeedP m n c d M D w (.returned (.agg #[.int .i64 e, .int .i64 h, .slice none 0 0])) W := by
  obtain ⟨M', D', h1, h2, h3, h4, h5⟩ := mdeed_fin hX hb hB hB1 hDD hD1 hst hW
  exact ⟨⟨e, h, .slice none 0 0, []⟩, s', ls', M', D', rfl, by rw [ha]; exact AnsOk.plain _ _ _ _, h1, hS, h2, h3, h4, h5, fun b hb => (by cases hb)⟩

set_option maxHeartbeats 1000000 in
theorem ins_nil (A : Option Addr) (c : Nat) (w : World) : Calls Tryz.prog 39 #[.slice A 0 c] w fun y w' => y = .returned (.slice none 0 0) ∧ w' = w := by
  go_enter Tryz.func39, Tryz.ntmps39
  go_wp2
  go_loopw [3, 8] (fun r i wr => r = .slice none 0 0 ∧ i = .int .i64 0 ∧ wr = w) (fun _ _ _ => 0)
  case atStart => exact ⟨rfl, rfl, rfl⟩
  case round =>
    obtain ⟨rfl, rfl, rfl⟩ := hrel
    go_wp2
    go_ret
    exact ⟨rfl, rfl⟩

/-- A row that is handed to the store. -/
def InsP3 (l : List VV) (w : World) (y : Ending) (w' : World) : Prop :=
  ∃ A c vs, y = .returned (.slice A l.length c) ∧ Below w.heap.size w w' ∧ InsZ (fun k => w.heap.size ≤ k ∧ k < w'.heap.size) w' l A vs

theorem ins3_all (l : List VV) (A : Option Addr) (c : Nat) (w : World) (hl : LAt w A l) (hgood : ∀ (j : Nat) (x : VV), l[j]? = some x → x.good) (hm : l.length ≤ 2147483647) : Calls Tryz.prog 39 #[.slice A l.length c] w (InsP3 l w) := by
  cases hll : l with
  | nil =>
    refine (ins_nil A c w).mono ?_
    rintro y w' ⟨rfl, rfl⟩
    exact ⟨none, 0, [], rfl, Below.refl _ _, InsZ.nil _ _⟩
  | cons x xs =>
    rw [← hll]
    have h0 : 0 < l.length := by rw [hll]; simp
    refine (ins2_all l A c w hl hgood hm).mono ?_
    rintro y w' ⟨A1, c1, vs, rfl, hr, hk, hb, hrow, hval⟩
    refine ⟨A1, c1, vs, rfl, hb, InsD.z ⟨hr, hk, fun ad e => ⟨hrow ad e, ?_⟩, fun j v hv t a n c e => ⟨hval j v hv t a n c e, ?_⟩⟩⟩
    · obtain ⟨ad', e', hlt, _⟩ := hr.2 h0
      rw [e] at e'
      obtain rfl := Option.some.inj e'
      exact hlt
    · have hj : j < l.length := by
        have := (List.getElem?_eq_some_iff.1 hv).1
        rw [hk.1] at this
        exact this
      obtain ⟨y, _, hy⟩ := hk.2 j _ v (List.getElem?_eq_getElem hj) hv
      exact rep_lt hy e

/-- An error that a variable holds, and which is not that of division by zero. -/
structure HasE (w : World) (g : Nat) (a p : Addr) : Prop where
  lt : g < w.heap.size
  cell : w.cell? ⟨g, 0, none⟩ = some (.iface 194 (.pointer (some p)))
  er : Er w p
  ne : p ≠ a

theorem HasE.of {w w' : World} {g : Nat} {a p : Addr} (h : HasE w g a p) (hb : Below w.heap.size w w') : HasE w' g a p where
  lt := Nat.lt_of_lt_of_le h.lt hb.size
  cell := by rw [hb.cell (p := ⟨g, 0, none⟩) h.lt]; exact h.cell
  er := h.er.of hb
  ne := h.ne

set_option maxRecDepth 100000 in
set_option maxHeartbeats 1000000 in
theorem zzErr_one (a b : Addr) (w : World) (h : Has w a) (hb : Er w b) (hab : b ≠ a) : Calls Tryz.prog 37 #[.iface 194 (.pointer (some b))] w fun e w' => e = .returned (.int .i64 1) ∧ w = w' := by
  have hc := h.cell
  have hq := eql_other a b w hab h.er hb
  clear h hb
  go_enter Tryz.func37, Tryz.ntmps37
  go_wp2
  go_ret
  exact ⟨rfl, rfl⟩

end Go.Proofs.YtffgkocokkhahaaGreatDoor

/- Numbers that a law's walk needs. -/
namespace Go.Proofs.YtffgkocokkhahaaGreatDoor
open Go.RowKit

theorem q_facts {q qx k : Nat} (h : q = qx + 1) (hl : q ≤ k) (hk : k ≤ 85) : (q : Int) - 1 = (qx : Int) ∧ IntKind.i64.wrap ((q : Int) - 1) = (qx : Int) ∧ wrap64 (qx : Int) = qx ∧ ¬ ((qx : Int) < 0) ∧ qx < q :=
  ⟨i64_pred2 h, i64_pred3 h (by omega), w64_nat qx (by omega), by omega, by omega⟩
theorem q_len {α : Type} {o : α} {os : List α} {q qx : Nat} (hq : q = (o :: os).length) (h : q = qx + 1) : qx = os.length := by
  rw [List.length_cons] at hq
  omega

end Go.Proofs.YtffgkocokkhahaaGreatDoor
