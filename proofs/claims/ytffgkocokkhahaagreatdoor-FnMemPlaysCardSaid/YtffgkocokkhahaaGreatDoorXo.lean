/-
  (*xtree).overflow: a full page gives an entry to a neighbour, or is parted.
-/
import Derived.Test.YtffgkocokkhahaaGreatDoorXt
namespace Go.Proofs.YtffgkocokkhahaaGreatDoor
open Go.RowKit

/-- The tree has become one of these entries. -/
def GrowP (t : Nat) (L : List XE) (S : Nat → Prop) (w : World) (y : Ending) (w' : World) : Prop :=
  y = .returned (.tuple #[]) ∧ ∃ S', TreeAt w' t L S' ∧ Chg S w w' ∧ ∀ k, S' k → S k ∨ w.heap.size ≤ k

/-- What overflow has done before it looks at the neighbours. -/
theorem over_start {t : Nat} {c : Int} {fi la r : Value} {ver : Int} {w : World} (e : XE) (ht : TreeW w t c fi la r ver) :
    TreeW ((w.setCell ⟨t, 4, none⟩ (.int .i64 (wrap64 (ver + 1)))).alloc (.cells #[.slice e.A e.m e.p, .int .i64 e.h] 136)) t c fi la r (wrap64 (ver + 1)) ∧
    Chg (fun b => b = t) w ((w.setCell ⟨t, 4, none⟩ (.int .i64 (wrap64 (ver + 1)))).alloc (.cells #[.slice e.A e.m e.p, .int .i64 e.h] 136)) ∧
    ((w.setCell ⟨t, 4, none⟩ (.int .i64 (wrap64 (ver + 1)))).alloc (.cells #[.slice e.A e.m e.p, .int .i64 e.h] 136)).heap[w.heap.size]? = some (.cells #[.slice e.A e.m e.p, .int .i64 e.h] 136 (0, 0)) := by
  refine ⟨?_, ?_, ?_⟩
  · unfold TreeW
    rw [heap_alloc_ne _ _ _ (by simpa using lt_of_heap ht), heap_setCell_at, show w.heap[t]? = _ from ht]
    rfl
  · exact Chg.alloc (Chg.setCell (Chg.refl (fun b => b = t) w) (p := ⟨t, 4, none⟩) (.inl rfl) _) _
  · have h := heap_new (w.setCell ⟨t, 4, none⟩ (.int .i64 (wrap64 (ver + 1)))) (.cells #[.slice e.A e.m e.p, .int .i64 e.h] 136)
    simpa using h

/-- Two pages under a new root. -/
theorem below_al2 (w : World) (a c : Obj) : Below w.heap.size w ((w.alloc a).alloc c) := ((Below.refl _ _).alloc (Nat.le_refl _) _).alloc (by simp) _

theorem rooted_two {t q rb xb : Nat} {l1 l2 : List XE} {r1 r2 xr : List Value} {c : Int} {w : World} (ht : ∃ ver, TreeW w t c (ptr q) (ptr rb) (.iface 169 (ptr xb)) ver)
    (h1 : PageAt w q l1 r1 (ptr rb) (.pointer none)) (h2 : PageAt w rb l2 r2 (.pointer none) (ptr q)) (hx : RootAt w xb q [rb] xr) (hqr : ¬ q = rb)
    (s1 : 64 ≤ l1.length ∧ l1.length ≤ 128) (s2 : 64 ≤ l2.length ∧ l2.length ≤ 128) : Rooted w t xb [(q, l1), (rb, l2)] c :=
  ⟨ht, ⟨q, [rb], xr, rfl, hx⟩, ⟨⟨r1, h1⟩, ⟨r2, h2⟩, trivial⟩, by
    intro p hp
    simp at hp
    rcases hp with rfl | rfl
    · exact s1
    · exact s2, by simp [Blocks, hqr], by simp⟩

set_option maxRecDepth 100000 in
set_option maxHeartbeats 1000000 in
theorem over_lone (t q i : Nat) (es : List XE) (e : XE) (w : World) (h : Lone w t q es es.length) (hl : es.length = 128) (hi : i ≤ 128) :
    Calls Tryz.prog 86 #[.pointer (some ⟨t, 0, none⟩), .pointer none, .pointer (some ⟨q, 0, none⟩), .int .i64 (-1), .int .i64 i, .agg #[.slice e.A e.m e.p, .int .i64 e.h], .int .i64 e.n] w
      (GrowP t (es.take i ++ e :: es.drop i) (fun k => k = t ∨ k = q) w) := by
  have hne := h.ne
  obtain ⟨⟨ver, ht⟩, ⟨rest, hq⟩, _⟩ := h
  obtain ⟨ht1, hc1, hb1⟩ := over_start e ht
  have ct4 : w.cell? ⟨t, 4, none⟩ = some (.int .i64 ver) := cell_of_heap ht 4
  have ft4 : w.frozen? ⟨t, 4, none⟩ = false := free_of_heap ht 4
  have lt := lt_of_heap ht
  have HT1 := Lib.hid ht1
  have HC1 := Lib.hid hc1
  have HQ1 := Lib.hid (hq.chg hc1 (fun h => hne h.symm))
  have cb0 := cell_of_heap hb1 0
  have cb1 := cell_of_heap hb1 1
  have HL := Lib.hid hl
  have LQ := Lib.hid hq.lt
  clear ht hq ht1 hc1 hb1 hl
  go_enter Tryz.func86, Tryz.ntmps86
  go_wp2_with (first
    | (go_at_call 111; refine (siblings_none _).mono ?_; rintro y w' ⟨rfl, rfl⟩)
    | (go_at_call 114; refine (split_leaf t q i es _ _ e _ _ _ _ _ _ HQ1.out HT1.out hne hi HL.out (by omega) (by rw [HL.out]; omega)).mono ?_; rintro y w2 ⟨rfl, rb, xb, xr, hh, hx, hxn, hxr, hc2⟩))
  first | go_end0 | refine bodyPost_ret (results_none rfl _ _ _) rfl ?_
  obtain ⟨hnew, hver, l1, l2, r1, r2, hl12, a1, a2, a3, a4, hp1, hp2⟩ := hh
  have hqn : ¬ q = rb := by
    have h1 := LQ.out
    have h2 := HC1.out.size
    omega
  have hcount : ((es.take i ++ e :: es.drop i).length : Int) = es.length + 1 := by
    have := HL.out
    simp [List.length_take]
    omega
  have hroot : Rooted w2 t xb [(q, l1), (rb, l2)] ((ents [(q, l1), (rb, l2)]).length : Nat) := by
    have e1 : ents [(q, l1), (rb, l2)] = es.take i ++ e :: es.drop i := by rw [← hl12]; simp [ents]
    rw [e1, hcount]
    exact rooted_two hver hp1 hp2 hx hqn ⟨a1, by omega⟩ ⟨a3, by omega⟩
  have hat := TreeAt.many hroot
  have e1 : ents [(q, l1), (rb, l2)] = es.take i ++ e :: es.drop i := by rw [← hl12]; simp [ents]
  rw [e1] at hat
  refine ⟨rfl, _, hat, (HC1.out.mono (fun k _ h => .inl h)).trans hc2, fun k hk => ?_⟩
  have hs := HC1.out.size
  rcases hk with (hk | hk) | hk
  · exact .inl (.inl hk)
  · exact .inr (by omega)
  · simp [Blocks] at hk
    rcases hk with hk | hk
    · exact .inl (.inr hk)
    · exact .inr (by omega)

end Go.Proofs.YtffgkocokkhahaaGreatDoor
