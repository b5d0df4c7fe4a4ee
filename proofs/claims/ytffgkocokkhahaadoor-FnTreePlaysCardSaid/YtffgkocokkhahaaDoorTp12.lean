/-
  An ordered list of keys and values: the plain deeds. No program. || What a tree tells, in memory: values, pairs, answers. || Pages: a count, elements side by side, room, two words behind. What an insertion, a move to a neighbour, a split make of one. Of no program. || Pages of the tree of btree.go in memory. || (*tree).insert.
-/
import Derived.Test.YtffgkocokkhahaaDoorTp11
import Derived.Test.YtffgkocokkhahaaDoorTp08
import Derived.Test.YtffgkocokkhahaaDoorTp01
import Derived.BigRegion
import Derived.IntWalk
import Derived.StillTailTactics

/- An ordered list of keys and values: the plain deeds. No program. -/
namespace Go.Proofs.YtffgkocokkhahaaDoor
open Go.RowKit

/-- How keys compare: in the order, or (d) in the other one. -/
def kc (d : Bool) (a b : List VV) : Int := if d then - lexV a b else lexV a b

theorem kc_anti (d : Bool) (a b : List VV) : kc d b a = - kc d a b := by
  unfold kc
  rw [lexV_anti a b]
  split <;> omega
theorem kc_trans {d : Bool} {a b c : List VV} (h1 : a.length = b.length) (h2 : b.length = c.length) (h3 : kc d a b < 0) (h4 : kc d b c < 0) : kc d a c < 0 := by
  have h := lexV_chain a b c h1 h2
  have g := lexV_chain c b a h2.symm h1.symm
  rw [lexV_anti b c, lexV_anti a b, lexV_anti a c] at g
  unfold kc at *
  generalize lexV a b = p at *
  generalize lexV b c = q at *
  generalize lexV a c = r at *
  cases d <;> simp only [if_true, if_false, Bool.false_eq_true] at * <;> omega
theorem kc_eq_lt {d : Bool} {a b c : List VV} (h1 : a.length = b.length) (h2 : b.length = c.length) (h3 : kc d a b = 0) (h4 : kc d b c < 0) : kc d a c < 0 := by
  have h := lexV_chain a b c h1 h2
  have g := lexV_chain c b a h2.symm h1.symm
  rw [lexV_anti b c, lexV_anti a b, lexV_anti a c] at g
  unfold kc at *
  generalize lexV a b = p at *
  generalize lexV b c = q at *
  generalize lexV a c = r at *
  cases d <;> simp only [if_true, if_false, Bool.false_eq_true] at * <;> omega

/-- A key and its value. -/
structure PR where
  k : List VV
  v : List VV

def signP (d : Bool) (k : List VV) (st : List PR) : Nat → Int := fun j => match st[j]? with
  | some x => kc d k x.k
  | none => 0
theorem signP_at {d : Bool} {k : List VV} {st : List PR} {j : Nat} {x : PR} (h : st[j]? = some x) : signP d k st j = kc d k x.k := by unfold signP; rw [h]

def SrtP (d : Bool) (st : List PR) : Prop := st.Pairwise fun a b => kc d a.k b.k < 0

def placeP (d : Bool) (k : List VV) : List PR → Nat
  | [] => 0
  | x :: l => if 0 < kc d k x.k then placeP d k l + 1 else 0
def thereP (d : Bool) (k : List VV) (st : List PR) : Bool := match st[placeP d k st]? with
  | some x => kc d k x.k == 0
  | none => false

theorem placeP_le (d : Bool) (k : List VV) : ∀ (st : List PR), placeP d k st ≤ st.length
  | [] => Nat.le_refl _
  | x :: l => by
    unfold placeP
    split
    · have := placeP_le d k l
      simp only [List.length_cons]
      omega
    · omega
theorem placeP_ahead (d : Bool) (k : List VV) : ∀ (st : List PR) (j : Nat) (x : PR), j < placeP d k st → st[j]? = some x → 0 < kc d k x.k
  | [], _, _, _, h => by simp at h
  | y :: l, 0, x, hj, h => by
    obtain rfl : y = x := by simpa using h
    unfold placeP at hj
    split at hj
    · assumption
    · omega
  | y :: l, j + 1, x, hj, h => by
    unfold placeP at hj
    split at hj
    · exact placeP_ahead d k l j x (by omega) (by simpa using h)
    · omega
theorem placeP_here (d : Bool) (k : List VV) : ∀ (st : List PR) (x : PR), st[placeP d k st]? = some x → kc d k x.k ≤ 0
  | [], _, h => by simp at h
  | y :: l, x, h => by
    unfold placeP at h
    split at h
    · exact placeP_here d k l x (by simpa using h)
    · obtain rfl : y = x := by simpa using h
      omega

/-- Keys of so many values, in order. -/
structure StOk (d : Bool) (n : Nat) (st : List PR) : Prop where
  srt : SrtP d st
  len : ∀ x ∈ st, x.k.length = n

theorem StOk.pos {d : Bool} {n : Nat} {st : List PR} {k : List VV} (h : StOk d n st) (hk : k.length = n) : Pos (signP d k st) st.length (placeP d k st) (thereP d k st) := by
  have hlt : ∀ i j (a b : PR), i < j → st[i]? = some a → st[j]? = some b → kc d a.k b.k < 0 := fun i j a b hij ha hb => by
    obtain ⟨h1, rfl⟩ := List.getElem?_eq_some_iff.1 ha
    obtain ⟨h2, rfl⟩ := List.getElem?_eq_some_iff.1 hb
    exact List.pairwise_iff_getElem.1 h.srt i j h1 h2 hij
  refine ⟨placeP_le d k st, fun j hj => ?_, fun j h1 h2 => ?_, fun hok => ?_, fun hok hlt' => ?_⟩
  · have hl := placeP_le d k st
    rw [signP_at (List.getElem?_eq_getElem (by omega))]
    exact placeP_ahead d k st j _ hj (List.getElem?_eq_getElem (by omega))
  · have hg : placeP d k st < st.length := by omega
    have e1 := List.getElem?_eq_getElem hg
    have e2 := List.getElem?_eq_getElem h2
    have h3 := placeP_here d k st _ e1
    have h4 := hlt _ _ _ _ h1 e1 e2
    rw [signP_at e2]
    have l1 := h.len _ (List.getElem_mem hg)
    have l2 := h.len _ (List.getElem_mem h2)
    rcases Int.lt_or_eq_of_le h3 with h5 | h5
    · exact kc_trans (by omega) (by omega) h5 h4
    · exact kc_eq_lt (by omega) (by omega) h5 h4
  · unfold thereP at hok
    split at hok
    · rename_i x hx
      refine ⟨(List.getElem?_eq_some_iff.1 hx).1, ?_⟩
      rw [signP_at hx]
      simpa using hok
    · cases hok
  · have e1 := List.getElem?_eq_getElem hlt'
    rw [signP_at e1]
    have h3 := placeP_here d k st _ e1
    unfold thereP at hok
    rw [e1] at hok
    simp at hok
    omega

theorem StOk.nil (d : Bool) (n : Nat) : StOk d n [] := ⟨List.Pairwise.nil, fun x hx => by cases hx⟩

theorem StOk.ins {d : Bool} {n : Nat} {st : List PR} {r : PR} (h : StOk d n st) (hk : r.k.length = n) (ht : thereP d r.k st = false) :
    StOk d n (st.take (placeP d r.k st) ++ r :: st.drop (placeP d r.k st)) := by
  have hp := h.pos hk
  rw [ht] at hp
  generalize placeP d r.k st = g at *
  have hs := h.srt
  unfold SrtP at hs
  have hsplit : st = st.take g ++ st.drop g := (List.take_append_drop _ _).symm
  rw [hsplit] at hs
  obtain ⟨s1, s2, s3⟩ := List.pairwise_append.1 hs
  have hg := hp.le
  have ha : ∀ a ∈ st.take g, kc d a.k r.k < 0 := fun a ha => by
    obtain ⟨i, hi, rfl⟩ := List.getElem_of_mem ha
    have hi2 : i < g := by simp at hi; omega
    rw [List.getElem_take]
    have := hp.ahead i hi2
    rw [signP_at (List.getElem?_eq_getElem (by omega))] at this
    rw [kc_anti]
    omega
  have hb : ∀ b ∈ st.drop g, kc d r.k b.k < 0 := fun b hb => by
    obtain ⟨i, hi, rfl⟩ := List.getElem_of_mem hb
    have hi2 : g + i < st.length := by simp at hi; omega
    rw [List.getElem_drop]
    rw [← signP_at (List.getElem?_eq_getElem hi2)]
    rcases Nat.eq_zero_or_pos i with h0 | h0
    · subst h0
      exact hp.miss rfl (by omega)
    · exact hp.behind _ (by omega) hi2
  refine ⟨?_, fun x hx => ?_⟩
  · unfold SrtP
    refine List.pairwise_append.2 ⟨s1, List.pairwise_cons.2 ⟨hb, s2⟩, fun a ha' b hb' => ?_⟩
    rcases List.mem_cons.1 hb' with rfl | hb'
    · exact ha a ha'
    · exact s3 a ha' b hb'
  · rcases List.mem_append.1 hx with hx | hx
    · exact h.len x (List.mem_of_mem_take hx)
    · rcases List.mem_cons.1 hx with rfl | hx
      · exact hk
      · exact h.len x (List.mem_of_mem_drop hx)

theorem StOk.put {d : Bool} {n : Nat} {st : List PR} {g : Nat} {x y : PR} (h : StOk d n st) (hx : st[g]? = some x) (hk : y.k = x.k) : StOk d n (st.set g y) := by
  have hm : (st.set g y).map PR.k = st.map PR.k := by
    obtain ⟨hg, rfl⟩ := List.getElem?_eq_some_iff.1 hx
    rw [List.map_set, hk]
    exact List.ext_getElem (by simp) (fun i h1 h2 => by
      rw [List.getElem_set]
      split
      · rename_i e; subst e; simp
      · rfl)
  have hs : (st.map PR.k).Pairwise fun a b => kc d a b < 0 := List.pairwise_map.2 h.srt
  have hs2 : ((st.set g y).map PR.k).Pairwise fun a b => kc d a b < 0 := by rw [hm]; exact hs
  refine ⟨List.pairwise_map.1 hs2, fun z hz => ?_⟩
  rcases List.mem_or_eq_of_mem_set hz with hz | rfl
  · exact h.len z hz
  · rw [hk]
    exact h.len x (List.mem_of_getElem? hx)

theorem StOk.erase {d : Bool} {n : Nat} {st : List PR} (g : Nat) (h : StOk d n st) : StOk d n (st.eraseIdx g) :=
  ⟨h.srt.sublist (List.eraseIdx_sublist st g), fun x hx => h.len x ((List.eraseIdx_sublist st g).mem hx)⟩

inductive TOp where
  | set | get | delete | clear | len | ends | first | last | seek
deriving DecidableEq

/-- A deed. -/
structure TD where
  op : TOp
  K : List VV
  V : List VV
  N : Int

/-- The list behind a deed. -/
def nxtT (d : Bool) (st : List PR) (x : TD) : List PR := match x.op with
  | .set => match st[placeP d x.K st]? with
    | some y => if thereP d x.K st then st.set (placeP d x.K st) ⟨y.k, x.V⟩ else st.take (placeP d x.K st) ++ ⟨x.K, x.V⟩ :: st.drop (placeP d x.K st)
    | none => st.take (placeP d x.K st) ++ ⟨x.K, x.V⟩ :: st.drop (placeP d x.K st)
  | .delete => if thereP d x.K st then st.eraseIdx (placeP d x.K st) else st
  | .clear => []
  | _ => st

/-- A deed whose key, where it has one, has so many values. -/
def TD.keyed (x : TD) (n : Nat) : Prop := x.op = .set ∨ x.op = .get ∨ x.op = .delete ∨ x.op = .seek → x.K.length = n

theorem nxtT_ok {d : Bool} {n : Nat} {st : List PR} {x : TD} (h : StOk d n st) (hx : x.keyed n) : StOk d n (nxtT d st x) := by
  unfold nxtT
  cases hop : x.op with
  | set =>
    have hk : x.K.length = n := hx (.inl hop)
    simp only
    split
    · rename_i y hy
      split
      · exact h.put hy rfl
      · rename_i ht
        exact h.ins (r := ⟨x.K, x.V⟩) hk (by simpa using ht)
    · rename_i hy
      exact h.ins (r := ⟨x.K, x.V⟩) hk (by unfold thereP; simp only; rw [hy])
  | delete =>
    simp only
    split
    · exact h.erase _
    · exact h
  | clear => exact StOk.nil d n
  | get => exact h
  | len => exact h
  | ends => exact h
  | first => exact h
  | last => exact h
  | seek => exact h

theorem nxtT_len (d : Bool) (st : List PR) (x : TD) : (nxtT d st x).length ≤ st.length + 1 := by
  unfold nxtT
  cases x.op <;> simp only
  case set =>
    split
    · split
      · simp
      · simp [List.length_take]; omega
    · simp [List.length_take]; omega
  case delete =>
    split
    · have := List.length_eraseIdx_le st (placeP d x.K st)
      omega
    · omega
  all_goals simp

def runT (d : Bool) (st : List PR) (ds : List TD) : List PR := ds.foldl (nxtT d) st
theorem runT_snoc (d : Bool) (st : List PR) (ds : List TD) (x : TD) : runT d st (ds ++ [x]) = nxtT d (runT d st ds) x := by simp [runT]
theorem runT_len (d : Bool) : ∀ (ds : List TD) (st : List PR), (runT d st ds).length ≤ st.length + ds.length
  | [], st => by simp [runT]
  | x :: ds, st => by
    have h1 := runT_len d ds (nxtT d st x)
    have h2 := nxtT_len d st x
    have e : runT d st (x :: ds) = runT d (nxtT d st x) ds := rfl
    rw [e]
    simp only [List.length_cons]
    omega

/-- What a deed tells: each only where it is said. -/
structure TAn where
  is : Option Bool
  n : Option Nat
  v : Option (List VV)
  ps : Option (List PR)

def ansT (d : Bool) (st : List PR) (x : TD) : TAn := match x.op with
  | .get => ⟨some (thereP d x.K st), none, if thereP d x.K st then (st[placeP d x.K st]?).map PR.v else none, none⟩
  | .delete => ⟨some (thereP d x.K st), none, none, none⟩
  | .len => ⟨none, some st.length, none, none⟩
  | .ends => ⟨none, none, none, match st.head?, st.getLast? with | some a, some b => some [a, b] | _, _ => none⟩
  | .first => ⟨none, none, none, some (st.take x.N.toNat)⟩
  | .last => ⟨none, none, none, some (st.reverse.take x.N.toNat)⟩
  | .seek => ⟨some (thereP d x.K st), none, none, if 0 ≤ x.N then some ((st.drop (placeP d x.K st)).take x.N.toNat)
      else if placeP d x.K st < st.length then some ((st.take (placeP d x.K st + 1)).reverse.take (-x.N).toNat) else none⟩
  | _ => ⟨none, none, none, none⟩

end Go.Proofs.YtffgkocokkhahaaDoor

/- What a tree tells, in memory: values, pairs, answers. -/
namespace Go.Proofs.YtffgkocokkhahaaDoor
open Go.RowKit

theorem own_ne {w : World} {b : Nat} {cs : Array Value} {t e : TypeId} {fr : Nat × Nat} {base size n : Nat} {v : Value} {xs : List Value} (h : w.ownsRow base e size v n xs) (hb : w.heap[b]? = some (.cells cs t fr)) (hne : e ≠ t) : v.ownBlock ≠ some b := by
  rcases h.2 with ⟨rfl, _⟩ | ⟨g, cap, cur, rfl, _, hh, _⟩
  · simp [Value.ownBlock]
  · intro he
    have : g = b := by simpa [Value.ownBlock] using he
    subst this
    rw [hb] at hh
    injection hh with hh
    injection hh with _ ht
    exact hne ht.symm
theorem own_chg {S : Nat → Prop} {w w' : World} {base : Nat} {e : TypeId} {size : Nat} {v : Value} {n : Nat} {xs : List Value} (h : w.ownsRow base e size v n xs) (hc : Chg S w w') (hn : ∀ b, v.ownBlock = some b → ¬ S b) : w'.ownsRow base e size v n xs := by
  obtain ⟨h1, h2⟩ := h
  refine ⟨h1, ?_⟩
  rcases h2 with h2 | ⟨g, cap, cur, e1, e2, e3, e4⟩
  · exact .inl h2
  · exact .inr ⟨g, cap, cur, e1, e2, heap_chg e3 hc (hn g (by rw [e1]; rfl)), e4⟩
theorem own_lt {w : World} {base : Nat} {e : TypeId} {size : Nat} {v : Value} {n : Nat} {xs : List Value} (h : w.ownsRow base e size v n xs) {b : Nat} (hb : v.ownBlock = some b) : b < w.heap.size := by
  rcases h.2 with ⟨h2, _⟩ | ⟨g, cap, cur, e1, e2, e3, e4⟩
  · rw [h2] at hb; cases hb
  · rw [e1] at hb
    have : g = b := by simpa [Value.ownBlock] using hb
    subst this
    exact lt_of_heap e3
theorem Chg.of_grown {w w' : World} {row : Option Nat} (h : w.grownBy w' row) : Chg (fun b => some b = row) w w' := ⟨h.os, h.tape, h.output, h.size, fun k hk hn => h.block k hk hn⟩

theorem reads_chg {D S : Nat → Prop} {w w' : World} {s n : Nat} {A : Option Addr} {xs : List Value} (h : Reads w w.heap.size s A n xs) (hi : ∀ ad, A = some ad → D ad.block) (hc : Chg S w w') (hn : ∀ k, D k → ¬ S k) : Reads w' w'.heap.size s A n xs := by
  refine ⟨h.1, fun hl => ?_⟩
  obtain ⟨ad, e, hlt, hcell⟩ := h.2 hl
  refine ⟨ad, e, Nat.lt_of_lt_of_le hlt hc.size, fun j u hu => ?_⟩
  rw [← hcell j u hu]
  exact World.cell?_of_block (by rw [block_add]; exact hc.block _ hlt (hn _ (hi ad e)))

theorem own_in {w : World} {B n c s : Nat} {e : TypeId} {A : Option Addr} {xs : List Value} (h : w.ownsRow B e s (.slice A n c) n xs) : ∀ ad, A = some ad → B ≤ ad.block ∧ ad.block < w.heap.size := by
  intro ad hA
  rcases h.2 with ⟨h2, _⟩ | ⟨g, cap, cur, e1, e2, e3, _⟩
  · injection h2 with h2
    rw [h2] at hA
    cases hA
  · injection e1 with e1
    rw [hA] at e1
    injection e1 with e1
    subst e1
    exact ⟨e2, lt_of_heap e3⟩

/-- Values that came out, in memory among D. -/
structure ValsIn (D : Nat → Prop) (w : World) (A : Option Addr) (us : List VV) : Prop where
  reads : Reads w w.heap.size 5 A us.length (flat VV.cells us)
  in_ : ∀ ad, A = some ad → D ad.block

theorem ValsIn.chg {D S : Nat → Prop} {w w' : World} {A : Option Addr} {us : List VV} (h : ValsIn D w A us) (hc : Chg S w w') (hn : ∀ k, D k → ¬ S k) : ValsIn D w' A us := ⟨reads_chg h.reads h.in_ hc hn, h.in_⟩
theorem ValsIn.mono {D E : Nat → Prop} {w : World} {A : Option Addr} {us : List VV} (h : ValsIn D w A us) (hn : ∀ k, D k → E k) : ValsIn E w A us := ⟨h.reads, fun ad e => hn _ (h.in_ ad e)⟩
theorem ValsIn.nil (D : Nat → Prop) (w : World) : ValsIn D w none [] := ⟨⟨rfl, fun h => by cases h⟩, fun ad e => by cases e⟩
theorem ValsIn.own {w : World} {B c : Nat} {e : TypeId} {A : Option Addr} {us : List VV} (h : w.ownsRow B e 5 (.slice A us.length c) us.length (flat VV.cells us)) : ValsIn (fun k => B ≤ k ∧ k < w.heap.size) w A us := ⟨Reads.of_own h, own_in h⟩

/-- A pair that came out. -/
structure PairV where
  kA : Option Addr
  kc : Nat
  k : List VV
  vA : Option Addr
  vc : Nat
  v : List VV
def PairV.cells (r : PairV) : List Value := [.slice r.kA r.k.length r.kc, .slice r.vA r.v.length r.vc]
theorem PairV.two (r : PairV) : r.cells.length = 2 := rfl

structure PairsIn (D : Nat → Prop) (w : World) (P : Option Addr) (rs : List PairV) : Prop where
  reads : Reads w w.heap.size 2 P rs.length (flat PairV.cells rs)
  in_ : ∀ ad, P = some ad → D ad.block
  keys : ∀ r ∈ rs, ValsIn D w r.kA r.k
  vals : ∀ r ∈ rs, ValsIn D w r.vA r.v

theorem PairsIn.chg {D S : Nat → Prop} {w w' : World} {P : Option Addr} {rs : List PairV} (h : PairsIn D w P rs) (hc : Chg S w w') (hn : ∀ k, D k → ¬ S k) : PairsIn D w' P rs :=
  ⟨reads_chg h.reads h.in_ hc hn, h.in_, fun r hr => (h.keys r hr).chg hc hn, fun r hr => (h.vals r hr).chg hc hn⟩
theorem PairsIn.mono {D E : Nat → Prop} {w : World} {P : Option Addr} {rs : List PairV} (h : PairsIn D w P rs) (hn : ∀ k, D k → E k) : PairsIn E w P rs :=
  ⟨h.reads, fun ad e => hn _ (h.in_ ad e), fun r hr => (h.keys r hr).mono hn, fun r hr => (h.vals r hr).mono hn⟩
theorem PairsIn.nil (D : Nat → Prop) (w : World) : PairsIn D w none [] := ⟨⟨rfl, fun h => by cases h⟩, fun ad e => (by cases e), fun r hr => (by cases hr), fun r hr => (by cases hr)⟩

/-- An answer. -/
structure TAV where
  is : Bool
  n : Int
  R : Option Addr
  c : Nat
  us : List VV
  P : Option Addr
  pc : Nat
  rs : List PairV
def TAV.cells (a : TAV) : List Value := [.bool a.is, .int .i64 a.n, .slice a.R a.us.length a.c, .slice a.P a.rs.length a.pc]
theorem TAV.four (a : TAV) : a.cells.length = 4 := rfl
def TAV.zero : TAV := ⟨false, 0, none, 0, [], none, 0, []⟩

structure TAnsIn (D : Nat → Prop) (w : World) (a : TAV) : Prop where
  vals : ValsIn D w a.R a.us
  prs : PairsIn D w a.P a.rs
theorem TAnsIn.chg {D S : Nat → Prop} {w w' : World} {a : TAV} (h : TAnsIn D w a) (hc : Chg S w w') (hn : ∀ k, D k → ¬ S k) : TAnsIn D w' a := ⟨h.vals.chg hc hn, h.prs.chg hc hn⟩
theorem TAnsIn.mono {D E : Nat → Prop} {w : World} {a : TAV} (h : TAnsIn D w a) (hn : ∀ k, D k → E k) : TAnsIn E w a := ⟨h.vals.mono hn, h.prs.mono hn⟩
theorem TAnsIn.zero (D : Nat → Prop) (w : World) : TAnsIn D w .zero := ⟨ValsIn.nil D w, PairsIn.nil D w⟩

/-- What came out of a list of values; of pairs. -/
def OutL (l us : List VV) : Prop := us.length = l.length ∧ ∀ (j : Nat) (x u : VV), l[j]? = some x → us[j]? = some u → OutOf x u
def PairsOut (ps : List PR) (rs : List PairV) : Prop := rs.length = ps.length ∧ ∀ (j : Nat) (p : PR) (r : PairV), ps[j]? = some p → rs[j]? = some r → OutL p.k r.k ∧ OutL p.v r.v

theorem OutL.nil : OutL [] [] := ⟨rfl, fun j x u h => by simp at h⟩
theorem PairsOut.nil : PairsOut [] [] := ⟨rfl, fun j x u h => by simp at h⟩
theorem PairsOut.snoc {ps : List PR} {rs : List PairV} {p : PR} {r : PairV} (h : PairsOut ps rs) (hk : OutL p.k r.k) (hv : OutL p.v r.v) : PairsOut (ps ++ [p]) (rs ++ [r]) := by
  refine ⟨by simp [h.1], fun j a b ha hb => ?_⟩
  rcases Nat.lt_or_ge j ps.length with hj | hj
  · rw [List.getElem?_append_left hj] at ha
    rw [List.getElem?_append_left (by rw [h.1]; exact hj)] at hb
    exact h.2 j a b ha hb
  · rw [List.getElem?_append_right hj] at ha
    rw [List.getElem?_append_right (by rw [h.1]; exact hj), h.1] at hb
    cases hz : j - ps.length with
    | zero =>
      rw [hz] at ha hb
      obtain rfl := Option.some.inj ha
      obtain rfl := Option.some.inj hb
      exact ⟨hk, hv⟩
    | succ i =>
      rw [hz] at ha
      simp at ha

/-- An answer tells what is to be told. -/
structure TSays (a : TAV) (x : TAn) : Prop where
  is : ∀ b, x.is = some b → a.is = b
  n : ∀ n, x.n = some n → a.n = (n : Int)
  v : ∀ l, x.v = some l → OutL l a.us
  ps : ∀ l, x.ps = some l → PairsOut l a.rs

end Go.Proofs.YtffgkocokkhahaaDoor

/- Pages: a count, elements side by side, room, two words behind. What an insertion, a move to a neighbour, a split make of one. Of no program. -/
namespace Go.Proofs.YtffgkocokkhahaaDoor
open Go.RowKit

theorem splice_low {α : Type} (L cs : List α) (o k : Nat) (hk : k < o) (ho : o ≤ L.length) : (splice L o cs)[k]? = L[k]? := by
  unfold splice
  rw [List.getElem?_append_left (by rw [List.length_take]; omega), List.getElem?_take, if_pos hk]

theorem splice_nil {α : Type} (L : List α) (o : Nat) : splice L o [] = L := by simp [splice]

/-- The middle is replaced. -/
theorem splice_mid {α : Type} (X Y Z cs : List α) (o : Nat) (ho : o = X.length) (h : Y.length = cs.length) : splice (X ++ (Y ++ Z)) o cs = X ++ (cs ++ Z) := by
  subst ho
  unfold splice
  rw [List.take_append_of_le_length (by omega), List.take_length, ← h, List.drop_append, List.drop_of_length_le (by omega), show X.length + Y.length - X.length = Y.length by omega, List.drop_append_of_le_length (by omega), List.drop_length]
  simp

theorem set_splice {α : Type} (L : List α) (o : Nat) (v : α) (h : o < L.length) : L.set o v = splice L o [v] := by
  unfold splice
  rw [List.set_eq_take_append_cons_drop, if_pos h]
  rfl

theorem splice_next {α : Type} (L cs ds : List α) (o : Nat) (h : o + cs.length + ds.length ≤ L.length) : splice (splice L o cs) (o + cs.length) ds = splice L o (cs ++ ds) := by
  have e : L = L.take o ++ (L.drop o).take cs.length ++ ((L.drop (o + cs.length)).take ds.length ++ L.drop (o + cs.length + ds.length)) := by
    rw [List.append_assoc, ← List.append_assoc (List.take cs.length _), ← List.drop_drop (i := ds.length) (j := o + cs.length) ]
    rw [List.append_assoc, List.take_append_drop, ← List.drop_drop, List.take_append_drop, List.take_append_drop]
  have h1 : splice L o cs = L.take o ++ (cs ++ L.drop (o + cs.length)) := rfl
  have e2 : L.drop (o + cs.length) = (L.drop (o + cs.length)).take ds.length ++ (L.drop (o + cs.length)).drop ds.length := (List.take_append_drop _ _).symm
  rw [h1, e2, show L.take o ++ (cs ++ ((L.drop (o + cs.length)).take ds.length ++ (L.drop (o + cs.length)).drop ds.length)) = (L.take o ++ cs) ++ ((L.drop (o + cs.length)).take ds.length ++ (L.drop (o + cs.length)).drop ds.length) by simp]
  rw [splice_mid _ _ _ ds _ (by simp; omega) (by simp; omega)]
  unfold splice
  rw [List.drop_drop, List.length_append]
  simp [Nat.add_assoc]

theorem set2_splice {α : Type} (L : List α) (o : Nat) (a b : α) (h : o + 2 ≤ L.length) : (L.set o a).set (o + 1) b = splice L o [a, b] := by
  rw [set_splice L o a (by omega), set_splice _ (o + 1) b (by rw [length_splice _ _ _ (by simp; omega)]; omega)]
  exact splice_next L [a] [b] o (by simp; omega)

/-- The middle is read. -/
theorem mid_at {α : Type} (X Y Z : List α) (o j : Nat) (v : α) (ho : o = X.length) (h : Y[j]? = some v) : (X ++ (Y ++ Z))[o + j]? = some v := by
  subst ho
  have hj : j < Y.length := (List.getElem?_eq_some_iff.1 h).1
  rw [List.getElem?_append_right (by omega), show X.length + j - X.length = j by omega, List.getElem?_append_left hj]
  exact h

section
variable {E : Type} (f : E → List Value) (s : Nat) (hf : ∀ e, (f e).length = s)

/-- A page's cells. -/
def pgL (es : List E) (rest T : List Value) : List Value := .int .i64 es.length :: (flat f es ++ (rest ++ T))

include hf in
theorem pgL_length (es : List E) (rest T : List Value) : (pgL f es rest T).length = 1 + (es.length * s + (rest.length + T.length)) := by
  simp [pgL, flat_length f s hf]; omega

/-- The count is written over. -/
theorem pgL_set0 (es : List E) (rest T : List Value) (v : Value) : (pgL f es rest T).set 0 v = v :: (flat f es ++ (rest ++ T)) := rfl

theorem pgL_count (es : List E) (rest T : List Value) : (pgL f es rest T)[0]? = some (.int .i64 es.length) := rfl

include hf in
theorem pgL_at (es : List E) (rest T : List Value) (i r : Nat) (e : E) (v : Value) (h : es[i]? = some e) (hr : r < s) (hv : (f e)[r]? = some v) : (pgL f es rest T)[1 + i * s + r]? = some v := by
  unfold pgL
  rw [show 1 + i * s + r = (i * s + r) + 1 by omega, List.getElem?_cons_succ]
  have h1 := flat_at f s hf es i e r v h hr hv
  rw [List.getElem?_append_left (List.getElem?_eq_some_iff.1 h1).1]
  exact h1

include hf in
theorem pgL_tail (es : List E) (rest T : List Value) (k j : Nat) (hk : k = 1 + es.length * s + rest.length + j) : (pgL f es rest T)[k]? = T[j]? := by
  subst hk
  unfold pgL
  rw [show 1 + es.length * s + rest.length + j = (es.length * s + (rest.length + j)) + 1 by omega, List.getElem?_cons_succ, List.getElem?_append_right (by rw [flat_length f s hf]; omega), flat_length f s hf,
    show es.length * s + (rest.length + j) - es.length * s = rest.length + j by omega, List.getElem?_append_right (by omega)]
  congr 1
  omega

include hf in
/-- Elements from i on, as many as are wanted, are what lies there. -/
theorem pgL_src (es : List E) (rest T : List Value) (i n j : Nat) (v : Value) (h : (flat f ((es.drop i).take n))[j]? = some v) : (pgL f es rest T)[1 + i * s + j]? = some v := by
  have e1 : flat f es = flat f (es.take i) ++ (flat f ((es.drop i).take n) ++ flat f ((es.drop i).drop n)) := by
    rw [← flat_append, List.take_append_drop, ← flat_append, List.take_append_drop]
  rcases Nat.lt_or_ge es.length i with hi | hi
  · rw [List.drop_of_length_le (by omega)] at h
    simp [flat] at h
  · unfold pgL
    rw [show 1 + i * s + j = (i * s + j) + 1 by omega, List.getElem?_cons_succ]
    have h1 : (flat f es)[i * s + j]? = some v := by
      rw [e1]
      exact mid_at _ _ _ _ j v (by rw [flat_length f s hf, List.length_take, Nat.min_eq_left hi]) h
    rw [List.getElem?_append_left (List.getElem?_eq_some_iff.1 h1).1]
    exact h1

include hf in
/-- An insertion: the elements from i on go one up, the count is raised, the new one is laid at i. -/
theorem ins_row (es : List E) (rest T : List Value) (i : Nat) (e : E) (hi : i ≤ es.length) (hr : s ≤ rest.length) :
    splice ((splice (pgL f es rest T) (1 + (i + 1) * s) (flat f (es.drop i))).set 0 (.int .i64 (es.length + 1 : Nat))) (1 + i * s) (f e) = pgL f (es.take i ++ e :: es.drop i) (rest.drop s) T := by
  have hA : (flat f (es.take i)).length = i * s := by rw [flat_length f s hf, List.length_take, Nat.min_eq_left hi]
  have hD : (flat f (es.drop i)).length = (es.length - i) * s := by rw [flat_length f s hf, List.length_drop]
  have e1 : flat f es = flat f (es.take i) ++ flat f (es.drop i) := by rw [← flat_append, List.take_append_drop]
  have hDR : (flat f (es.drop i) ++ rest).length = (es.length - i) * s + rest.length := by rw [List.length_append, hD]
  have e2 : flat f (es.drop i) ++ rest = (flat f (es.drop i) ++ rest).take s ++ (((flat f (es.drop i) ++ rest).drop s).take ((es.length - i) * s) ++ rest.drop s) := by
    have : rest.drop s = ((flat f (es.drop i) ++ rest).drop s).drop ((es.length - i) * s) := by
      rw [List.drop_drop, List.drop_append, List.drop_of_length_le (l := flat f (es.drop i)) (by rw [hD]; omega), hD, List.nil_append]
      congr 1
      omega
    rw [this, List.take_append_drop, List.take_append_drop]
  have hX : ((flat f (es.drop i) ++ rest).take s).length = s := by rw [List.length_take, hDR]; omega
  have hY : (((flat f (es.drop i) ++ rest).drop s).take ((es.length - i) * s)).length = (es.length - i) * s := by rw [List.length_take, List.length_drop, hDR]; omega
  generalize hXd : (flat f (es.drop i) ++ rest).take s = X at *
  generalize ((flat f (es.drop i) ++ rest).drop s).take ((es.length - i) * s) = Y at *
  have e3 : pgL f es rest T = (.int .i64 es.length :: (flat f (es.take i) ++ X)) ++ (Y ++ (rest.drop s ++ T)) := by
    unfold pgL
    rw [e1, show flat f (es.take i) ++ flat f (es.drop i) ++ (rest ++ T) = flat f (es.take i) ++ ((flat f (es.drop i) ++ rest) ++ T) by simp, e2]
    simp
  rw [e3, splice_mid _ _ _ (flat f (es.drop i)) _ (by simp [hA, hX, Nat.succ_mul]; omega) (by rw [hY, hD])]
  rw [show ((.int .i64 es.length :: (flat f (es.take i) ++ X)) ++ (flat f (es.drop i) ++ (rest.drop s ++ T))).set 0 (Value.int .i64 (es.length + 1 : Nat)) = (.int .i64 (es.length + 1 : Nat) :: flat f (es.take i)) ++ (X ++ (flat f (es.drop i) ++ (rest.drop s ++ T))) by simp]
  rw [splice_mid _ _ _ (f e) _ (by simp [hA]; omega) (by rw [hX, hf])]
  unfold pgL
  rw [flat_append, flat_cons]
  simp [List.length_take, Nat.min_eq_left hi]
  omega

include hf in
/-- Elements are laid behind those of a page. -/
theorem add_row (es fs : List E) (rest T : List Value) (h : fs.length * s ≤ rest.length) :
    (splice (pgL f es rest T) (1 + es.length * s) (flat f fs)).set 0 (.int .i64 (es.length + fs.length : Nat)) = pgL f (es ++ fs) (rest.drop (fs.length * s)) T := by
  have e1 : rest = rest.take (fs.length * s) ++ rest.drop (fs.length * s) := (List.take_append_drop _ _).symm
  have e3 : pgL f es rest T = (.int .i64 es.length :: flat f es) ++ (rest.take (fs.length * s) ++ (rest.drop (fs.length * s) ++ T)) := by
    unfold pgL
    rw [List.cons_append, ← List.append_assoc (rest.take _), List.take_append_drop]
  rw [e3, splice_mid _ _ _ (flat f fs) _ (by simp [flat_length f s hf]; omega) (by rw [List.length_take, flat_length f s hf]; omega)]
  unfold pgL
  rw [flat_append]
  simp

include hf in
/-- The first c elements are taken out: those behind go down. -/
theorem cut_row (es : List E) (rest T : List Value) (c : Nat) (hc : c ≤ es.length) :
    ∃ rest', rest'.length = rest.length + c * s ∧ (∀ x ∈ rest', x ∈ flat f es ∨ x ∈ rest) ∧
      (splice (pgL f es rest T) 1 (flat f (es.drop c))).set 0 (.int .i64 (es.length - c : Nat)) = pgL f (es.drop c) rest' T := by
  have hD : (flat f (es.drop c)).length = (es.length - c) * s := by rw [flat_length f s hf, List.length_drop]
  have hL : (flat f es ++ rest).length = es.length * s + rest.length := by rw [List.length_append, flat_length f s hf]
  have hm : (es.length - c) * s + c * s = es.length * s := by rw [← Nat.add_mul]; congr 1; omega
  refine ⟨(flat f es ++ rest).drop ((es.length - c) * s), by rw [List.length_drop, hL]; omega, fun x hx => by have := List.mem_of_mem_drop hx; simpa using this, ?_⟩
  have e3 : pgL f es rest T = [.int .i64 es.length] ++ ((flat f es ++ rest).take ((es.length - c) * s) ++ ((flat f es ++ rest).drop ((es.length - c) * s) ++ T)) := by
    unfold pgL
    rw [← List.append_assoc (List.take _ _), List.take_append_drop]
    simp
  rw [e3, splice_mid _ _ _ (flat f (es.drop c)) 1 (by simp) (by rw [List.length_take, hL, hD]; omega)]
  unfold pgL
  simp

include hf in
/-- Elements are laid ahead of those of a page. -/
theorem fore_row (es fs : List E) (rest T : List Value) (h : fs.length * s ≤ rest.length) :
    (splice (splice (pgL f es rest T) (1 + fs.length * s) (flat f es)) 1 (flat f fs)).set 0 (.int .i64 (es.length + fs.length : Nat)) = pgL f (fs ++ es) (rest.drop (fs.length * s)) T := by
  have hE : (flat f es).length = es.length * s := flat_length f s hf es
  have hF : (flat f fs).length = fs.length * s := flat_length f s hf fs
  have hL : (flat f es ++ rest).length = es.length * s + rest.length := by rw [List.length_append, hE]
  have e2 : flat f es ++ rest = (flat f es ++ rest).take (fs.length * s) ++ (((flat f es ++ rest).drop (fs.length * s)).take (es.length * s) ++ rest.drop (fs.length * s)) := by
    have : rest.drop (fs.length * s) = ((flat f es ++ rest).drop (fs.length * s)).drop (es.length * s) := by
      rw [List.drop_drop, List.drop_append, List.drop_of_length_le (l := flat f es) (by rw [hE]; omega), hE, List.nil_append]
      congr 1
      omega
    rw [this, List.take_append_drop, List.take_append_drop]
  have hX : ((flat f es ++ rest).take (fs.length * s)).length = fs.length * s := by rw [List.length_take, hL]; omega
  have hY : (((flat f es ++ rest).drop (fs.length * s)).take (es.length * s)).length = es.length * s := by rw [List.length_take, List.length_drop, hL]; omega
  generalize (flat f es ++ rest).take (fs.length * s) = X at *
  generalize ((flat f es ++ rest).drop (fs.length * s)).take (es.length * s) = Y at *
  have e3 : pgL f es rest T = (.int .i64 es.length :: X) ++ (Y ++ (rest.drop (fs.length * s) ++ T)) := by
    unfold pgL
    rw [show flat f es ++ (rest ++ T) = (flat f es ++ rest) ++ T by simp, e2]
    simp
  rw [e3, splice_mid _ _ _ (flat f es) _ (by simp [hX]; omega) (by rw [hY, hE])]
  rw [show (.int .i64 es.length :: X) ++ (flat f es ++ (rest.drop (fs.length * s) ++ T)) = [Value.int .i64 es.length] ++ (X ++ (flat f es ++ (rest.drop (fs.length * s) ++ T))) by simp]
  rw [splice_mid _ _ _ (flat f fs) 1 (by simp) (by rw [hX, hF])]
  unfold pgL
  rw [flat_append]
  simp [Nat.add_comm]

/-- Fewer elements: the others are room. -/
theorem less_row (es : List E) (rest T : List Value) (c : Nat) (hc : c ≤ es.length) :
    (pgL f es rest T).set 0 (.int .i64 c) = pgL f (es.take c) (flat f (es.drop c) ++ rest) T := by
  unfold pgL
  rw [← List.append_assoc (flat f (es.take c)), ← List.append_assoc (flat f (es.take c)), ← flat_append, List.take_append_drop, List.length_take, Nat.min_eq_left hc]
  simp
end

end Go.Proofs.YtffgkocokkhahaaDoor

/- Pages of the tree of btree.go in memory. -/
namespace Go.Proofs.YtffgkocokkhahaaDoor
open Go.RowKit
variable {G : Value}

/-- An entry of a page: the key's values, as they are and as they lie in memory; the value's, likewise. -/
structure XE where
  l : List VV
  A : Option Addr
  m : Nat
  p : Nat
  V : List VV
  B : Option Addr
  n : Nat
  q : Nat
def XE.cells (e : XE) : List Value := [.slice e.A e.m e.p, .slice e.B e.n e.q]
theorem XE.two (e : XE) : e.cells.length = 2 := rfl

/-- A page's memory. -/
structure PageAt (w : World) (b : Nat) (es : List XE) (rest : List Value) (nx pv : Value) : Prop where
  heap : w.heap[b]? = some (.cells (pgL XE.cells es rest [nx, pv]).toArray 132 (0, 0))
  room : es.length * 2 + rest.length = 258
  one : ∀ x ∈ rest, x.oneCell' = true

theorem PageAt.lt {w : World} {b : Nat} {es : List XE} {rest : List Value} {nx pv : Value} (h : PageAt w b es rest nx pv) : b < w.heap.size := lt_of_heap h.heap
theorem PageAt.le {w : World} {b : Nat} {es : List XE} {rest : List Value} {nx pv : Value} (h : PageAt w b es rest nx pv) : es.length ≤ 129 := by have := h.room; omega
theorem PageAt.cell {w : World} {b : Nat} {es : List XE} {rest : List Value} {nx pv : Value} (h : PageAt w b es rest nx pv) (o : Nat) : w.cell? ⟨b, o, none⟩ = (pgL XE.cells es rest [nx, pv])[o]? := by
  rw [cell_of_heap h.heap]
  simp
theorem PageAt.free {w : World} {b : Nat} {es : List XE} {rest : List Value} {nx pv : Value} (h : PageAt w b es rest nx pv) (o : Nat) : w.frozen? ⟨b, o, none⟩ = false := free_of_heap h.heap o
theorem PageAt.chg {S : Nat → Prop} {w w' : World} {b : Nat} {es : List XE} {rest : List Value} {nx pv : Value} (h : PageAt w b es rest nx pv) (hc : Chg S w w') (hn : ¬ S b) : PageAt w' b es rest nx pv :=
  ⟨heap_chg h.heap hc hn, h.room, h.one⟩

/-- The tree's own six words; G: the function that compares. -/
def TreeW (G : Value) (w : World) (t : Nat) (c : Int) (fi la r : Value) (ver : Int) : Prop := w.heap[t]? = some (.cells #[.int .i64 c, G, fi, la, r, .int .i64 ver] 125 (0, 0))

theorem TreeW.chg {S : Nat → Prop} {w w' : World} {t : Nat} {c : Int} {fi la r : Value} {ver : Int} (h : TreeW G w t c fi la r ver) (hc : Chg S w w') (hn : ¬ S t) : TreeW G w' t c fi la r ver := heap_chg h hc hn

@[go_sem] theorem as_xx_xd (v : Value) (w : World) : (Instr.typeAssert (.iface 123 v) 20 126 true).run Tryd.prog w = .ok (.tuple #[.pointer none, .bool false]) w := by kernel_rfl
@[go_sem] theorem as_xd_xd (v : Value) (w : World) : (Instr.typeAssert (.iface 123 v) 20 123 true).run Tryd.prog w = .ok (.tuple #[v, .bool true]) w := by kernel_rfl
@[go_sem] theorem as_xd_xd1 (v : Value) (w : World) : (Instr.typeAssert (.iface 123 v) 20 123 false).run Tryd.prog w = .ok v w := by kernel_rfl
@[go_sem] theorem as_xx_xx (v : Value) (w : World) : (Instr.typeAssert (.iface 126 v) 20 126 true).run Tryd.prog w = .ok (.tuple #[v, .bool true]) w := by kernel_rfl
@[go_sem] theorem as_xd_xx (v : Value) (w : World) : (Instr.typeAssert (.iface 126 v) 20 123 true).run Tryd.prog w = .ok (.tuple #[.pointer none, .bool false]) w := by kernel_rfl

theorem flat_one (es : List XE) : ∀ x ∈ flat XE.cells es, x.oneCell' = true := by
  intro x hx
  unfold flat at hx
  obtain ⟨e, he, hx⟩ := List.mem_flatMap.1 hx
  simp [XE.cells] at hx
  rcases hx with rfl | rfl <;> rfl

/-- The root over several pages: a count, the first page, then for each further one itself twice: as what parts, and as what hangs there. -/
def dbl (b : Nat) : List Value := [.pointer (some ⟨b, 0, none⟩), .iface 123 (.pointer (some ⟨b, 0, none⟩))]
theorem dbl_two (b : Nat) : (dbl b).length = 2 := rfl
def xgL (b0 : Nat) (bs : List Nat) (rest : List Value) : List Value := .int .i64 bs.length :: .iface 123 (.pointer (some ⟨b0, 0, none⟩)) :: (flat dbl bs ++ rest)
structure RootAt (w : World) (x b0 : Nat) (bs : List Nat) (rest : List Value) : Prop where
  heap : w.heap[x]? = some (.cells (xgL b0 bs rest).toArray 137 (0, 0))
  room : bs.length * 2 + rest.length = 515
  one : ∀ v ∈ rest, v.oneCell' = true

theorem xgL_length (b0 : Nat) (bs : List Nat) (rest : List Value) : (xgL b0 bs rest).length = 2 + (bs.length * 2 + rest.length) := by
  simp [xgL, flat_length dbl 2 dbl_two]
  omega
theorem RootAt.lt {w : World} {x b0 : Nat} {bs : List Nat} {rest : List Value} (h : RootAt w x b0 bs rest) : x < w.heap.size := lt_of_heap h.heap
theorem RootAt.cell {w : World} {x b0 : Nat} {bs : List Nat} {rest : List Value} (h : RootAt w x b0 bs rest) (o : Nat) : w.cell? ⟨x, o, none⟩ = (xgL b0 bs rest)[o]? := by
  rw [cell_of_heap h.heap]
  simp
theorem RootAt.free {w : World} {x b0 : Nat} {bs : List Nat} {rest : List Value} (h : RootAt w x b0 bs rest) (o : Nat) : w.frozen? ⟨x, o, none⟩ = false := free_of_heap h.heap o
theorem RootAt.below {w w' : World} {x b0 : Nat} {bs : List Nat} {rest : List Value} (h : RootAt w x b0 bs rest) (hb : Below w.heap.size w w') : RootAt w' x b0 bs rest := ⟨heap_below h.heap hb, h.room, h.one⟩
theorem RootAt.chg {S : Nat → Prop} {w w' : World} {x b0 : Nat} {bs : List Nat} {rest : List Value} (h : RootAt w x b0 bs rest) (hc : Chg S w w') (hn : ¬ S x) : RootAt w' x b0 bs rest := ⟨heap_chg h.heap hc hn, h.room, h.one⟩
theorem PageAt.below {w w' : World} {b : Nat} {es : List XE} {rest : List Value} {nx pv : Value} (h : PageAt w b es rest nx pv) (hb : Below w.heap.size w w') : PageAt w' b es rest nx pv := ⟨heap_below h.heap hb, h.room, h.one⟩

/-- What parts the pages j and j + 1. -/
theorem RootAt.sep {w : World} {x b0 : Nat} {bs : List Nat} {rest : List Value} (h : RootAt w x b0 bs rest) {j b : Nat} (hj : bs[j]? = some b) : w.cell? ⟨x, 1 + j * 2 + 1, none⟩ = some (.pointer (some ⟨b, 0, none⟩)) := by
  rw [h.cell]
  unfold xgL
  rw [show 1 + j * 2 + 1 = (j * 2) + 1 + 1 by omega, List.getElem?_cons_succ, List.getElem?_cons_succ]
  have h1 : (flat dbl bs)[j * 2]? = some (.pointer (some ⟨b, 0, none⟩)) := flat_at dbl 2 dbl_two bs j b 0 _ hj (by omega) rfl
  rw [List.getElem?_append_left (List.getElem?_eq_some_iff.1 h1).1]
  exact h1
theorem RootAt.ch {w : World} {x b0 : Nat} {bs : List Nat} {rest : List Value} (h : RootAt w x b0 bs rest) {j b : Nat} (hj : (b0 :: bs)[j]? = some b) : w.cell? ⟨x, 1 + j * 2, none⟩ = some (.iface 123 (.pointer (some ⟨b, 0, none⟩))) := by
  rw [h.cell]
  unfold xgL
  cases j with
  | zero =>
    obtain rfl : b0 = b := by simpa using hj
    rfl
  | succ j =>
    rw [show 1 + (j + 1) * 2 = (j * 2 + 1) + 1 + 1 by omega, List.getElem?_cons_succ, List.getElem?_cons_succ]
    have h1 := flat_at dbl 2 dbl_two bs j b 1 _ (by simpa using hj) (by omega) rfl
    rw [List.getElem?_append_left (List.getElem?_eq_some_iff.1 h1).1]
    exact h1

end Go.Proofs.YtffgkocokkhahaaDoor

/- (*tree).insert. -/
namespace Go.Proofs.YtffgkocokkhahaaDoor
open Go.RowKit
variable {G : Value}

theorem szde : (Tryd.prog.info? 129).map (·.size) = some 2 := by kernel_rfl
theorem arrde : Tryd.prog.underlying 130 = some (.array 129 129) := by kernel_rfl

def InsertP (G : Value) (t q : Nat) (es : List XE) (rest : List Value) (nx pv : Value) (c : Int) (fi la r : Value) (w : World) (x : Ending) (w' : World) : Prop :=
  x = .returned (.pointer (some ⟨q, 0, none⟩)) ∧ PageAt w' q es rest nx pv ∧ (∃ ver, TreeW G w' t (c + 1) fi la r ver) ∧ Chg (fun b => b = t ∨ b = q) w w'

/-- What the last stores leave. -/
theorem insert_end {q i : Nat} {es : List XE} {rest : List Value} {nx pv : Value} {e : XE} {w w3 : World} {L : List Value}
    (hL : splice (pgL XE.cells es rest [nx, pv]) (1 + (i + 1) * 2) (flat XE.cells (es.drop i)) = L)
    (hq : PageAt w q es rest nx pv) (hi : i ≤ es.length) (hl : es.length ≤ 128)
    (hq2 : w3.heap[q]? = some (.cells (((L.set 0 (.int .i64 (es.length + 1 : Nat))).set (1 + i * 2) (.slice e.A e.m e.p)).set (1 + i * 2 + 1) (.slice e.B e.n e.q)).toArray 132 (0, 0))) :
    PageAt w3 q (es.take i ++ e :: es.drop i) (rest.drop 2) nx pv := by
  have hr := hq.room
  have hlen : (pgL XE.cells es rest [nx, pv]).length = 261 := by rw [pgL_length XE.cells 2 XE.two]; simp; omega
  have hfl : (flat XE.cells (es.drop i)).length = (es.length - i) * 2 := by rw [flat_length XE.cells 2 XE.two, List.length_drop]
  refine ⟨?_, by simp [List.length_take, Nat.min_eq_left hi]; omega, fun x hx => hq.one x (List.mem_of_mem_drop hx)⟩
  rw [hq2]
  have h := ins_row XE.cells 2 XE.two es rest [nx, pv] i e hi (by omega)
  rw [hL] at h
  rw [← h, set2_splice _ _ _ _ (by rw [List.length_set, ← hL, length_splice _ _ _ (by omega)]; omega)]
  rfl

set_option maxRecDepth 100000 in
set_option maxHeartbeats 1000000 in
theorem insert_mid (t q : Nat) (i : Nat) (es : List XE) (rest : List Value) (nx pv : Value) (e : XE) (c : Int) (fi la r : Value) (ver : Int) (w : World)
    (hq : PageAt w q es rest nx pv) (ht : TreeW G w t c fi la r ver) (hne : ¬ t = q) (hi : i < es.length) (hl : es.length ≤ 128) (c0 : 0 ≤ c) (c1 : c ≤ 2147483647) :
    Calls Tryd.prog 72 #[.pointer (some ⟨t, 0, none⟩), .pointer (some ⟨q, 0, none⟩), .int .i64 i, .slice e.A e.m e.p, .slice e.B e.n e.q] w
      (InsertP G t q (es.take i ++ e :: es.drop i) (rest.drop 2) nx pv c fi la r w) := by
  obtain ⟨n, hn⟩ : ∃ n, n = es.length := ⟨_, rfl⟩
  have ct0 : w.cell? ⟨t, 0, none⟩ = some (.int .i64 c) := cell_of_heap ht 0
  have ct4 : w.cell? ⟨t, 5, none⟩ = some (.int .i64 ver) := cell_of_heap ht 5
  have ft0 : w.frozen? ⟨t, 0, none⟩ = false := free_of_heap ht 0
  have ft4 : w.frozen? ⟨t, 5, none⟩ = false := free_of_heap ht 5
  have cq0 : w.cell? ⟨q, 0, none⟩ = some (.int .i64 n) := by rw [hq.cell, hn]; rfl
  have fq0 : w.frozen? ⟨q, 0, none⟩ = false := hq.free 0
  have lt := lt_of_heap ht
  have lq := hq.lt
  have hne' : ¬ q = t := fun h => hne h.symm
  have hlen : (pgL XE.cells es rest [nx, pv]).length = 261 := by have := hq.room; rw [pgL_length XE.cells 2 XE.two]; simp; omega
  have hfl : (flat XE.cells (es.drop i)).length = (es.length - i) * 2 := by rw [flat_length XE.cells 2 XE.two, List.length_drop]
  have HLEN := Lib.hid hlen
  have HFL := Lib.hid hfl
  have H5 := Lib.hid (flat_one (es.drop i))
  have HSRC := Lib.hid (fun j v (h : (flat XE.cells (es.drop i))[j]? = some v) => (hq.cell (1 + i * 2 + j)).trans (pgL_src XE.cells 2 XE.two es rest [nx, pv] i es.length j v (by rw [List.take_of_length_le (by simp)]; exact h)))
  have HI := Lib.hid (Nat.le_of_lt hi)
  have HLE := Lib.hid hl
  rw [← hn] at hi hl
  have HN := Lib.hid hn
  have HQ := Lib.hid hq
  have HT := Lib.hid ht
  clear hn hq ht hlen hfl
  obtain ⟨L, hL⟩ : ∃ L, splice (pgL XE.cells es rest [nx, pv]) (1 + (i + 1) * 2) (flat XE.cells (es.drop i)) = L := ⟨_, rfl⟩
  have HL := Lib.hid hL
  clear hL
  go_enter Tryd.func72, Tryd.ntmps72
  go_wp2
  obtain ⟨k, hk⟩ : ∃ k, k = i + 1 := ⟨_, rfl⟩
  have hw : IntKind.i64.wrap (↑i + 1) = (k : Int) := by rw [hk, IntWalk.i64_in _ (by omega)]; rfl
  have hs1 := run_cut_l (P := Tryd.prog) arrde szde q 1 k (by omega)
  have hs2 := run_cut_lh (P := Tryd.prog) arrde szde q 1 i n (by omega) (by omega) (by omega)
  have HK := Lib.hid hk
  clear hk
  obtain ⟨w1, hw1⟩ : ∃ w1, w1 = (w.setCell ⟨t, 5, none⟩ (.int .i64 (wrap64 (ver + 1)))).drew := ⟨_, rfl⟩
  have hC1 : Chg (fun b => b = t ∨ b = q) w w1 := by rw [hw1]; exact ((Chg.refl _ _).setCell (.inl (.inl rfl)) _).drew
  have hQ1 : PageAt w1 q es rest nx pv := ⟨by rw [hw1, heap_drew, heap_setCell_ne _ _ _ _ _ hne']; exact HQ.out.heap, HQ.out.room, HQ.out.one⟩
  have hT1 : TreeW G w1 t c fi la r (wrap64 (ver + 1)) := by
    unfold TreeW
    rw [hw1, heap_drew, heap_setCell_at, HT.out]
    rfl
  have HC1 := Lib.hid hC1
  have HQ1 := Lib.hid hQ1
  have HT1 := Lib.hid hT1
  clear hC1 hQ1 hT1
  go_still_tail 12, (by kernel_rfl)
  change wpList _ _ _ _ _ ((w.setCell ⟨t, 5, none⟩ (.int .i64 (wrap64 (ver + 1)))).drew)
  rw [← hw1]
  clear hw1 ct0 ct4 ft0 ft4 cq0 fq0 hs1 hs2 hw
  refine wpList_copy_rows rfl (.tmp 31) (.tmp 37) 211 211 rfl 129 2 Tryd.underlying211 szde (some ⟨q, 1 + k * 2, none⟩) (some ⟨q, 1 + i * 2, none⟩) (129 - k) (129 - k) (n - i) (129 - i) rfl rfl
    q (1 + k * 2) (pgL XE.cells es rest [nx, pv]).toArray 132 HQ1.out.heap (flat XE.cells (es.drop i)) ?c2 (by omega) ?c3 ?c4 H5.out ?_
  case c2 => rw [HFL.out, ← HN.out, HK.out]; show (n - i) * 2 = min (n - i) (129 - (i + 1)) * 2; rw [Nat.min_eq_left (by omega)]
  case c3 => exact fun _ => ⟨rfl, _, rfl, fun j v h => by rw [add_mk, HQ1.out.cell]; exact pgL_src XE.cells 2 XE.two es rest [nx, pv] i es.length j v (by rw [List.take_of_length_le (by simp)]; exact h)⟩
  case c4 => rw [HFL.out, List.size_toArray, HLEN.out, ← HN.out, HK.out]; omega
  intro w2 HG2 HC2
  rw [HK.out, List.toList_toArray, HL.out] at HG2
  have HT2 := Lib.hid (HT1.out.chg HC2.out hne)
  have hLl := HL.out
  have hLlen : L.length = 261 := by rw [← hLl, length_splice _ _ _ (by rw [HFL.out, HLEN.out, ← HN.out]; omega)]; exact HLEN.out
  have cq0 : w2.cell? ⟨q, 0, none⟩ = some (.int .i64 n) := by
    rw [cell_of_heap HG2.out, List.getElem?_toArray, ← hLl, splice_low _ _ _ 0 (by omega) (by rw [HLEN.out]; omega), HN.out]
    rfl
  obtain ⟨u1, cu1⟩ : ∃ u, w2.cell? ⟨q, 1 + i * 2, none⟩ = some u := ⟨L[1 + i * 2], by rw [cell_of_heap HG2.out, List.getElem?_toArray]; exact List.getElem?_eq_getElem _⟩
  obtain ⟨u2, cu2⟩ : ∃ u, w2.cell? ⟨q, 1 + i * 2 + 1, none⟩ = some u := ⟨L[1 + i * 2 + 1], by rw [cell_of_heap HG2.out, List.getElem?_toArray]; exact List.getElem?_eq_getElem _⟩
  have fq0 : w2.frozen? ⟨q, 0, none⟩ = false := free_of_heap HG2.out 0
  have fu1 : w2.frozen? ⟨q, 1 + i * 2, none⟩ = false := free_of_heap HG2.out _
  have fu2 : w2.frozen? ⟨q, 1 + i * 2 + 1, none⟩ = false := free_of_heap HG2.out _
  have ct0 : w2.cell? ⟨t, 0, none⟩ = some (.int .i64 c) := cell_of_heap HT2.out 0
  have ft0 : w2.frozen? ⟨t, 0, none⟩ = false := free_of_heap HT2.out 0
  clear hLl
  go_wp2
  obtain ⟨w3, hw3⟩ : ∃ w3, w3 = w2.setCell ⟨q, 0, none⟩ (.int .i64 (↑n + 1)) := ⟨_, rfl⟩
  rw [← hw3]
  have z1 : ∀ b o, (¬ b = q ∨ ¬ o = 0) → w3.cell? ⟨b, o, none⟩ = w2.cell? ⟨b, o, none⟩ := fun b o h => by
    rw [hw3]
    exact World.cell?_setCell_other _ _ _ _ (fun e => by injection e with e1 e2; rcases h with h | h <;> exact h (by first | exact e1 | exact e2 | exact e1.symm | exact e2.symm))
  have z2 : ∀ b o, w3.frozen? ⟨b, o, none⟩ = w2.frozen? ⟨b, o, none⟩ := fun b o => by rw [hw3]; simp
  replace cu1 := (z1 _ _ (.inr (by omega))).trans cu1
  replace cu2 := (z1 _ _ (.inr (by omega))).trans cu2
  replace fu1 := (z2 _ _).trans fu1
  replace fu2 := (z2 _ _).trans fu2
  replace ct0 := (z1 _ _ (.inl hne)).trans ct0
  replace ft0 := (z2 _ _).trans ft0
  have HW3 := Lib.hid hw3
  clear z1 z2 hw3 cq0 fq0
  have hi3 : (i : Int) < 129 := by omega
  have hi4 : (0 : Int) ≤ i := by omega
  go_region
  all_goals go_wp2
  all_goals
    go_ret
    refine ⟨rfl, insert_end HL.out HQ.out HI.out HLE.out ?_, ⟨wrap64 (ver + 1), ?_⟩, ?_⟩
    · simp only [heap_drew, heap_setCell_ne _ _ _ _ _ hne', heap_setCell_at, HW3.out, HG2.out, Option.map_some, updObj_cells, List.setIfInBounds_toArray, HN.out]
      first | rfl | (rw [List.set_comm]; rfl)
    · unfold TreeW
      simp only [heap_drew, heap_setCell_ne _ _ _ _ _ hne, heap_setCell_at, HW3.out, show w2.heap[t]? = _ from HT2.out, Option.map_some, updObj_cells]
      rfl
    · rw [HW3.out]
      exact (HC1.out.trans (HC2.out.mono fun b _ h => .inr h)).trans (by repeat (first | exact Chg.refl _ _ | refine Chg.drew ?_ | refine Chg.setCell ?_ (by first | exact .inl (.inl rfl) | exact .inl (.inr rfl)) _))
set_option maxRecDepth 100000 in
set_option maxHeartbeats 1000000 in
theorem insert_last (t q : Nat) (i : Nat) (es : List XE) (rest : List Value) (nx pv : Value) (e : XE) (c : Int) (fi la r : Value) (ver : Int) (w : World)
    (hq : PageAt w q es rest nx pv) (ht : TreeW G w t c fi la r ver) (hne : ¬ t = q) (hi : i = es.length) (hl : es.length ≤ 128) (c0 : 0 ≤ c) (c1 : c ≤ 2147483647) :
    Calls Tryd.prog 72 #[.pointer (some ⟨t, 0, none⟩), .pointer (some ⟨q, 0, none⟩), .int .i64 i, .slice e.A e.m e.p, .slice e.B e.n e.q] w
      (InsertP G t q (es.take i ++ e :: es.drop i) (rest.drop 2) nx pv c fi la r w) := by
  have hlen : (pgL XE.cells es rest [nx, pv]).length = 261 := by have := hq.room; rw [pgL_length XE.cells 2 XE.two]; simp; omega
  have HL : splice (pgL XE.cells es rest [nx, pv]) (1 + (i + 1) * 2) (flat XE.cells (es.drop i)) = pgL XE.cells es rest [nx, pv] := by
    rw [hi, List.drop_length]
    exact splice_nil _ _
  have ct0 : w.cell? ⟨t, 0, none⟩ = some (.int .i64 c) := cell_of_heap ht 0
  have ct4 : w.cell? ⟨t, 5, none⟩ = some (.int .i64 ver) := cell_of_heap ht 5
  have ft0 : w.frozen? ⟨t, 0, none⟩ = false := free_of_heap ht 0
  have ft4 : w.frozen? ⟨t, 5, none⟩ = false := free_of_heap ht 5
  have cq0 : w.cell? ⟨q, 0, none⟩ = some (.int .i64 i) := by rw [hq.cell, hi]; rfl
  have fq0 : w.frozen? ⟨q, 0, none⟩ = false := hq.free 0
  have lt := lt_of_heap ht
  have lq := hq.lt
  have hne' : ¬ q = t := fun h => hne h.symm
  obtain ⟨u1, cu1⟩ : ∃ u, w.cell? ⟨q, 1 + i * 2, none⟩ = some u := ⟨_, (hq.cell _).trans (List.getElem?_eq_getElem (by rw [hlen]; omega))⟩
  obtain ⟨u2, cu2⟩ : ∃ u, w.cell? ⟨q, 1 + i * 2 + 1, none⟩ = some u := ⟨_, (hq.cell _).trans (List.getElem?_eq_getElem (by rw [hlen]; omega))⟩
  have fu1 : w.frozen? ⟨q, 1 + i * 2, none⟩ = false := hq.free _
  have fu2 : w.frozen? ⟨q, 1 + i * 2 + 1, none⟩ = false := hq.free _
  have hi9 : i ≤ 128 := by omega
  have HLN := Lib.hid HL
  have HI := Lib.hid (Nat.le_of_eq hi)
  have HLE := Lib.hid hl
  have HN := Lib.hid hi
  have HQ := Lib.hid hq
  have HT := Lib.hid ht
  clear hq ht hlen HL hi hl
  go_enter Tryd.func72, Tryd.ntmps72
  go_wp2
  obtain ⟨w3, hw3⟩ : ∃ w3, w3 = (w.setCell ⟨t, 5, none⟩ (.int .i64 (wrap64 (ver + 1)))).setCell ⟨q, 0, none⟩ (.int .i64 (↑i + 1)) := ⟨_, rfl⟩
  rw [← hw3]
  have HG3 := Lib.hid (show w3.heap[q]? = some (.cells ((pgL XE.cells es rest [nx, pv]).set 0 (.int .i64 (↑i + 1))).toArray 132 (0, 0)) by
    rw [hw3, heap_setCell_at, heap_setCell_ne _ _ _ _ _ hne', HQ.out.heap]
    simp [updObj_cells])
  have HT3 := Lib.hid (show w3.heap[t]? = some (.cells #[.int .i64 c, G, fi, la, r, .int .i64 (wrap64 (ver + 1))] 125 (0, 0)) by
    rw [hw3, heap_setCell_ne _ _ _ _ _ hne, heap_setCell_at, show w.heap[t]? = _ from HT.out]
    rfl)
  have HC3 := Lib.hid (show Chg (fun b => b = t ∨ b = q) w w3 by
    rw [hw3]
    exact ((Chg.refl _ _).setCell (.inl (.inl rfl)) _).setCell (.inl (.inr rfl)) _)
  have z1 : ∀ o, ¬ o = 0 → w3.cell? ⟨q, o, none⟩ = w.cell? ⟨q, o, none⟩ := fun o h => by
    rw [cell_of_heap HG3.out, HQ.out.cell, List.getElem?_toArray, List.getElem?_set_ne (fun e => h e.symm)]
  replace cu1 := (z1 _ (by omega)).trans cu1
  replace cu2 := (z1 _ (by omega)).trans cu2
  replace fu1 : w3.frozen? ⟨q, 1 + i * 2, none⟩ = false := free_of_heap HG3.out _
  replace fu2 : w3.frozen? ⟨q, 1 + i * 2 + 1, none⟩ = false := free_of_heap HG3.out _
  replace ct0 : w3.cell? ⟨t, 0, none⟩ = some (.int .i64 c) := cell_of_heap HT3.out 0
  replace ft0 : w3.frozen? ⟨t, 0, none⟩ = false := free_of_heap HT3.out 0
  clear z1 hw3 cq0 fq0 ct4 ft4
  have hi3 : (i : Int) < 129 := by omega
  have hi4 : (0 : Int) ≤ i := by omega
  go_region
  all_goals go_wp2
  all_goals
    go_ret
    refine ⟨rfl, insert_end HLN.out HQ.out HI.out HLE.out ?_, ⟨wrap64 (ver + 1), ?_⟩, ?_⟩
    · simp only [heap_drew, heap_setCell_ne _ _ _ _ _ hne', heap_setCell_at, HG3.out, Option.map_some, updObj_cells, List.setIfInBounds_toArray, HN.out]
      first | rfl | (rw [List.set_comm]; rfl)
    · unfold TreeW
      simp only [heap_drew, heap_setCell_ne _ _ _ _ _ hne, heap_setCell_at, HT3.out, Option.map_some, updObj_cells]
      rfl
    · exact HC3.out.trans (by repeat (first | exact Chg.refl _ _ | refine Chg.drew ?_ | refine Chg.setCell ?_ (by first | exact .inl (.inl rfl) | exact .inl (.inr rfl)) _))

theorem insert_any (t q : Nat) (i : Nat) (es : List XE) (rest : List Value) (nx pv : Value) (e : XE) (c : Int) (fi la r : Value) (ver : Int) (w : World)
    (hq : PageAt w q es rest nx pv) (ht : TreeW G w t c fi la r ver) (hne : ¬ t = q) (hi : i ≤ es.length) (hl : es.length ≤ 128) (c0 : 0 ≤ c) (c1 : c ≤ 2147483647) :
    Calls Tryd.prog 72 #[.pointer (some ⟨t, 0, none⟩), .pointer (some ⟨q, 0, none⟩), .int .i64 i, .slice e.A e.m e.p, .slice e.B e.n e.q] w
      (InsertP G t q (es.take i ++ e :: es.drop i) (rest.drop 2) nx pv c fi la r w) := by
  rcases Nat.lt_or_ge i es.length with h | h
  · exact insert_mid t q i es rest nx pv e c fi la r ver w hq ht hne h hl c0 c1
  · exact insert_last t q i es rest nx pv e c fi la r ver w hq ht hne (by omega) hl c0 c1

end Go.Proofs.YtffgkocokkhahaaDoor
