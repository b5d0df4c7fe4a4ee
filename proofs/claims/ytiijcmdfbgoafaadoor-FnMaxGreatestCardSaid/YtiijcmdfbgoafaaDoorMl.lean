/-
  The greatest of a list of values by the program's order: which one it is, and that none is greater. Plain data.
-/
import Derived.Test.YtiijcmdfbgoafaaDoorMx
import Derived.Test.YtiijcmdfbgoafaaDoorSl2
namespace Go.Proofs.YtiijcmdfbgoafaaDoor
open Go.RowKit

def VV.sv (x : VV) : SV := toSV (Kd.of x.k.toList) x.n x.u x.f x.s
theorem rep_conc {w : World} {x : VV} {y : SV} {v : Value} (hc : x.conc = true) (hi : x.is y) (h : Rep w y v) : Rep w x.sv v ∧ x.sv.plain := by
  obtain ⟨h1, h2⟩ := conc_sv hc
  obtain rfl := h1 y hi
  exact ⟨h, h2⟩

theorem lex_refl (a : SV) : a.lex a = 0 := by
  rw [lex_eq a a rfl rfl]
  simp [icmp]
theorem lex_flip {a b : SV} (h : 0 < b.lex a) : a.lex b ≤ 0 := by
  rcases Int.lt_or_le 0 (a.lex b) with h1 | h1
  · obtain ⟨_, h3⟩ := (lex_chain a b a).2 (by omega) (by omega)
    have := (h3 (lex_refl a)).1
    omega
  · exact h1
/-- What is not above one that is below another is not above that. -/
theorem coll_up {a b c : SV} (ha : a.plain) (hb : b.plain) (hc : c.plain) (h1 : a.coll b ≤ 0) (h2 : 0 < c.coll b) : a.coll c ≤ 0 := by
  rw [coll_lex ha hb] at h1
  rw [coll_lex hc hb] at h2
  rw [coll_lex ha hc]
  exact ((lex_chain a b c).1 h1 (lex_flip h2)).1
theorem coll_self {a : SV} (ha : a.plain) : a.coll a = 0 := by rw [coll_lex ha ha, lex_refl]

/-- One value more. -/
def stepB (o : Option SV) (y : SV) : Option SV :=
  match y with
  | .null => o
  | y => match o with
    | none => some y
    | some u => if 0 < y.coll u then some y else some u
def best (l : List VV) (k : Nat) : Option SV := (l.take k).foldl (fun o x => stepB o x.sv) none

theorem best_step {l : List VV} {k : Nat} {x : VV} (h : l[k]? = some x) : best l (k + 1) = stepB (best l k) x.sv := by
  unfold best
  rw [List.take_add_one, h, List.foldl_append]
  rfl

/-- Values that a maximum takes, each of a type and a number, and NULLs. -/
def AggL (l : List VV) : Prop := ∀ (j : Nat) (x : VV), l[j]? = some x → x.conc = true ∧ Rng x.n x.u x.f ∧ (x.sv = .null ∨ x.sv.agg = true)

theorem sv_null {x : VV} (hc : x.conc = true) : x.sv = .null ↔ x.isNull = true := by
  have hv := conc_valid hc
  unfold VV.sv VV.isNull
  constructor
  · intro h
    have hk : Kd.of x.k.toList = .null := by
      have ho : Kd.of x.k.toList ≠ .other := fun h' => by rw [h'] at hv; cases hv
      revert h ho
      cases Kd.of x.k.toList <;> simp [toSV]
    rw [Kd.of_lit _ hk (by simp)]
    rfl
  · intro h
    have h' : x.k.toList = [] := by simpa using h
    rw [h']
    rfl

theorem step_null (o : Option SV) : stepB o .null = o := rfl
theorem step_agg {o : Option SV} {y : SV} (h : y.agg = true) : stepB o y = match o with | none => some y | some u => if 0 < y.coll u then some y else some u := by
  cases y <;> first | rfl | exact absurd h (by simp [SV.agg])

structure BestAt (l : List VV) (k : Nat) (o : Option SV) : Prop where
  no : o = none → ∀ (j : Nat) (x : VV), j < k → l[j]? = some x → x.isNull = true
  is : ∀ u, o = some u → ∃ (j : Nat) (x : VV), l[j]? = some x ∧ x.isNull = false ∧ x.sv = u ∧ u.agg = true ∧ u.plain
  top : ∀ u, o = some u → ∀ (j : Nat) (x : VV), j < k → l[j]? = some x → x.isNull = false → x.sv.coll u ≤ 0

theorem best_at (l : List VV) (hl : AggL l) : ∀ k, k ≤ l.length → BestAt l k (best l k) := by
  intro k
  induction k with
  | zero => intro _; exact ⟨fun _ j x hj => (by omega), fun u h => (by cases h), fun u h => (by cases h)⟩
  | succ k ih =>
    intro hk
    have hlt : k < l.length := by omega
    obtain ⟨x, hx⟩ : ∃ x, l[k]? = some x := ⟨_, List.getElem?_eq_getElem hlt⟩
    have IH := ih (by omega)
    obtain ⟨hc, _, hag⟩ := hl k x hx
    have hp : x.sv.plain := (conc_sv hc).2
    rw [best_step hx]
    have old : ∀ {j : Nat} {z : VV}, j < k + 1 → l[j]? = some z → j < k ∨ z = x := by
      intro j z hj hz
      rcases Nat.lt_or_ge j k with h | h
      · exact .inl h
      · obtain rfl : j = k := by omega
        exact .inr (Option.some.inj (hz.symm.trans hx))
    rcases hag with hn | hag
    · rw [hn, step_null]
      have hxn := (sv_null hc).1 hn
      refine ⟨fun h j z hj hz => ?_, IH.is, fun u h j z hj hz hzn => ?_⟩
      · rcases old hj hz with h' | rfl
        · exact IH.no h j z h' hz
        · exact hxn
      · rcases old hj hz with h' | rfl
        · exact IH.top u h j z h' hz hzn
        · rw [hxn] at hzn; cases hzn
    · have hxn : x.isNull = false := by
        cases h : x.isNull with
        | false => rfl
        | true => rw [(sv_null hc).2 h] at hag; cases hag
      rw [step_agg hag]
      cases ho : best l k with
      | none =>
        refine ⟨fun h => (by cases h), fun u h => ?_, fun u h j z hj hz hzn => ?_⟩
        · obtain rfl : x.sv = u := Option.some.inj h
          exact ⟨k, x, hx, hxn, rfl, hag, hp⟩
        · obtain rfl : x.sv = u := Option.some.inj h
          rcases old hj hz with h' | rfl
          · rw [IH.no ho j z h' hz] at hzn; cases hzn
          · rw [coll_self hp]; omega
      | some u0 =>
        obtain ⟨j0, x0, hx0, hn0, e0, ha0, hp0⟩ := IH.is u0 ho
        by_cases hgt : 0 < x.sv.coll u0
        · refine ⟨fun h => (by simp [hgt] at h), fun u h => ?_, fun u h j z hj hz hzn => ?_⟩
          · obtain rfl : x.sv = u := by simpa [hgt] using h
            exact ⟨k, x, hx, hxn, rfl, hag, hp⟩
          · obtain rfl : x.sv = u := by simpa [hgt] using h
            rcases old hj hz with h' | rfl
            · exact coll_up (conc_sv (hl j z hz).1).2 hp0 hp (IH.top u0 ho j z h' hz hzn) hgt
            · rw [coll_self hp]; omega
        · refine ⟨fun h => (by simp [hgt] at h), fun u h => ?_, fun u h j z hj hz hzn => ?_⟩
          · obtain rfl : u0 = u := by simpa [hgt] using h
            exact ⟨j0, x0, hx0, hn0, e0, ha0, hp0⟩
          · obtain rfl : u0 = u := by simpa [hgt] using h
            rcases old hj hz with h' | rfl
            · exact IH.top u0 ho j z h' hz hzn
            · omega

end Go.Proofs.YtiijcmdfbgoafaaDoor
