/-
  laws.FnKeyCompares returns true, joined: the order of two lists the other way round is the opposite one.
-/
import Derived.Test.YtiijcmdfbgoafaaLawKey
namespace Go.Proofs.Ytiijcmdfbgoafaa
open Go.RowKit

theorem bytesOrd_anti (x y : List UInt8) : bytesOrd y x = -(bytesOrd x y) := by
  unfold bytesOrd three
  by_cases e : x = y
  · subst e
    simp [bytesLess_irrefl]
  · have e1 : (x == y) = false := by simpa using e
    have e2 : (y == x) = false := by simpa using fun h => e h.symm
    rw [e1, e2]
    cases hb : Op.bytesLess x y with
    | true =>
      have h2 : Op.bytesLess y x = false := by
        cases h : Op.bytesLess y x with
        | false => rfl
        | true => have := bytesLess_trans hb h; rw [bytesLess_irrefl] at this; cases this
      rw [h2]
      rfl
    | false =>
      rw [bytesLess_total x y hb e]
      rfl

theorem lex_anti (a b : SV) : b.lex a = -(a.lex b) := by
  unfold SV.lex
  by_cases h1 : a.rank < b.rank
  · have h2 : ¬ b.rank < a.rank := by omega
    simp [h1, h2]
  · by_cases h2 : b.rank < a.rank
    · simp [h1, h2]
    · simp only [h1, h2, if_false]
      by_cases h3 : a.key < b.key
      · have h4 : ¬ b.key < a.key := by omega
        simp [h3, h4]
      · by_cases h4 : b.key < a.key
        · simp [h3, h4]
        · simp only [h3, h4, if_false]
          exact bytesOrd_anti _ _

theorem coll_anti {x y : SV} (hx : x.plain) (hy : y.plain) : y.coll x = -(x.coll y) := by
  rw [coll_lex hx hy, coll_lex hy hx]
  exact lex_anti x y

theorem conc_plain {x : VV} (h : x.conc = true) : x.sv.plain := (conc_sv h).2

theorem ConcL.tail {x : VV} {l : List VV} (h : ConcL (x :: l)) : ConcL l := fun j y hy => h (j + 1) y (by simpa using hy)

theorem collV_anti : ∀ (l m : List VV), ConcL l → ConcL m → collV m l = -(collV l m)
  | [], [], _, _ => rfl
  | [], _ :: _, _, _ => rfl
  | _ :: _, [], _, _ => rfl
  | x :: l, y :: m, hl, hm => by
    have h := coll_anti (conc_plain (hl 0 x rfl).1) (conc_plain (hm 0 y rfl).1)
    rw [collV, collV]
    by_cases h0 : x.sv.coll y.sv = 0
    · rw [if_pos h0, if_pos (by rw [h, h0]; rfl)]
      exact collV_anti l m hl.tail hm.tail
    · rw [if_neg h0, if_neg (by rw [h]; omega), h]

theorem collV_three : ∀ (l m : List VV), ConcL l → ConcL m → collV l m = -1 ∨ collV l m = 0 ∨ collV l m = 1
  | [], _, _, _ => .inr (.inl rfl)
  | _ :: _, [], _, _ => .inr (.inl rfl)
  | x :: l, y :: m, hl, hm => by
    rw [collV]
    by_cases h0 : x.sv.coll y.sv = 0
    · rw [if_pos h0]; exact collV_three l m hl.tail hm.tail
    · rw [if_neg h0]; exact coll_three _ _ (conc_plain (hl 0 x rfl).1) (conc_plain (hm 0 y rfl).1)

theorem concL_of {l : List VV} {most : Int} (h : concL l most = true) (hr : ∀ (j : Nat) (x : VV), l[j]? = some x → Rng x.n x.u x.f) : ConcL l ∧ (l.length : Int) ≤ most := by
  unfold concL at h
  rw [Bool.and_eq_true, decide_eq_true_eq, List.all_eq_true] at h
  exact ⟨fun j x hx => ⟨h.2 x (List.mem_of_getElem? hx), hr j x hx⟩, h.1⟩

theorem sign_of (n v : Int) (h : sgn n = v) (w : World) : Calls Try.prog 13 #[.int .i64 n] w fun e w' => e = .returned (.int .i64 v) ∧ w = w' := by
  rw [← h]
  exact sign_any n w

theorem lawKey_walk {w : World} (l : List VV) (A : Option Addr) (p : Nat) (h : Int) (hA : LAt w A l) (hrl : ∀ (j : Nat) (x : VV), l[j]? = some x → Rng x.n x.u x.f) (hml : l.length ≤ maxLen) (_wh : (Lit.int .i64 h).wf = true)
    (m : List VV) (B : Option Addr) (q : Nat) (g : Int) (hB : LAt w B m) (hrm : ∀ (j : Nat) (x : VV), m[j]? = some x → Rng x.n x.u x.f) (hmm : m.length ≤ maxLen) (_wg : (Lit.int .i64 g).wf = true) :
    Calls Try.prog 7 #[.agg #[.slice A l.length p, .int .i64 h], .agg #[.slice B m.length q, .int .i64 g]] w fun e w' => e = .returned (.bool true) ∧ Below w.heap.size w w' := by
  have hza := fun w' (hb : Below w.heap.size w w') => zzFits16_any l A p h w' (hA.below hb)
  have hzb := fun w' (hb : Below w.heap.size w w') => zzFits16_any m B q g w' (hB.below hb)
  cases h1 : fits2B l with
  | false =>
    rw [h1] at hza
    exact lawKey_longA l m A B p q h g w hza
  | true =>
  rw [h1] at hza
  cases h2 : fits2B m with
  | false =>
    rw [h2] at hzb
    exact lawKey_longB l m A B p q h g w hza hzb
  | true =>
  rw [h2] at hzb
  cases h3 : ((l.length : Int) != m.length) with
  | true => exact lawKey_len l m A B p q h g w h3 hza hzb
  | false =>
  have hlm0 : (l.length : Int) = m.length := by simpa using h3
  have hlm : l.length = m.length := by omega
  have hL : (m.length : Int) = l.length := hlm0.symm
  have hca := fun w' (hb : Below w.heap.size w w') => allConcrete_any l A p 100 w' (hA.below hb) (by unfold maxLen at hml; omega)
  have hcb := fun w' (hb : Below w.heap.size w w') => allConcrete_any m B q 100 w' (hB.below hb) (by unfold maxLen at hmm; omega)
  cases h4 : concL l 100 with
  | false =>
    rw [h4] at hca
    exact lawKey_notA l m A B p q h g w hL hza hzb hca
  | true =>
  rw [h4] at hca
  cases h5 : concL m 100 with
  | false =>
    rw [h5] at hcb
    exact lawKey_notB l m A B p q h g w hL hza hzb hca hcb
  | true =>
  rw [h5] at hcb
  by_cases b1 : h < 0
  · exact lawKey_h_lo l m A B p q h g w hL b1 hza hzb hca hcb
  by_cases b2 : g < 0
  · exact lawKey_g_lo l m A B p q h g w hL (by omega) b2 hza hzb hca hcb
  by_cases b3 : 1152921504606846976 < h
  · exact lawKey_h_hi l m A B p q h g w hL (by omega) (by omega) b3 hza hzb hca hcb
  by_cases b4 : 1152921504606846976 < g
  · exact lawKey_g_hi l m A B p q h g w hL (by omega) (by omega) (by omega) b4 hza hzb hca hcb
  obtain ⟨hl, hlen⟩ := concL_of h4 hrl
  obtain ⟨hc, _⟩ := concL_of h5 hrm
  have hcr := fun w' (hb : Below w.heap.size w w') => implRows_any l m A B p q hlm (by omega) hl hc w' (hA.below hb) (hB.below hb)
  have hk1 := fun w' (hb : Below w.heap.size w w') => implKey_any l m A B p q h g hlm (by omega) hl hc (by omega) (by omega) (by omega) (by omega) w' (hA.below hb) (hB.below hb)
  have hk2 := fun w' (hb : Below w.heap.size w w') => implKey_any m l B A q p g h hlm.symm (by omega) hc hl (by omega) (by omega) (by omega) (by omega) w' (hB.below hb) (hA.below hb)
  have ha := collV_anti l m hl hc
  rcases collV_three l m hl hc with e | e | e
  · exact lawKey_lt l m A B p q h g w _ _ _ hL (by omega) (by omega) (by omega) (by omega) (sign_of _ _ (by rw [e]; decide)) (sign_of _ _ (by rw [e]; rfl)) (sign_of _ _ (by rw [ha, e]; rfl)) hza hzb hca hcb hcr hk1 hk2
  · have e2 : collV m l = 0 := by rw [ha, e]; rfl
    have k1 : keyC (collV l m) h g = h - g := by rw [e]; rfl
    have k2 : keyC (collV m l) g h = g - h := by rw [e2]; rfl
    rcases Int.lt_trichotomy h g with hh | hh | hh
    · exact lawKey_eq_lt l m A B p q h g w _ _ _ hL (by omega) (by omega) (by omega) (by omega) hh (sign_of _ _ (by rw [e]; decide)) (sign_of _ _ (by rw [k1]; unfold sgn; rw [if_pos (by omega)])) (sign_of _ _ (by rw [k2]; unfold sgn; rw [if_neg (by omega), if_pos (by omega)])) hza hzb hca hcb hcr hk1 hk2
    · subst hh
      exact lawKey_eq_eq l m A B p q h w _ _ _ hL (by omega) (by omega) (sign_of _ _ (by rw [e]; decide)) (sign_of _ _ (by rw [k1]; unfold sgn; rw [if_neg (by omega), if_neg (by omega)])) (sign_of _ _ (by rw [k2]; unfold sgn; rw [if_neg (by omega), if_neg (by omega)])) hza hzb hca hcb hcr hk1 hk2
    · exact lawKey_eq_gt l m A B p q h g w _ _ _ hL (by omega) (by omega) (by omega) (by omega) hh (sign_of _ _ (by rw [e]; decide)) (sign_of _ _ (by rw [k1]; unfold sgn; rw [if_neg (by omega), if_pos (by omega)])) (sign_of _ _ (by rw [k2]; unfold sgn; rw [if_pos (by omega)])) hza hzb hca hcb hcr hk1 hk2
  · exact lawKey_gt l m A B p q h g w _ _ _ hL (by omega) (by omega) (by omega) (by omega) (sign_of _ _ (by rw [e]; decide)) (sign_of _ _ (by rw [e]; rfl)) (sign_of _ _ (by rw [ha, e]; rfl)) hza hzb hca hcb hcr hk1 hk2

end Go.Proofs.Ytiijcmdfbgoafaa
