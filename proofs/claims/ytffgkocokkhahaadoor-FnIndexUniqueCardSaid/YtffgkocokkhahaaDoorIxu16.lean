/-
  (*mem).newUndo: what can be taken back is kept.
-/
import Derived.Test.YtffgkocokkhahaaDoorIxu15
import Derived.Test.YtffgkocokkhahaaDoorIxu05
import Derived.Deep.RegionLaw
import Derived.Deep.AppendLies

/- (*mem).newUndo: what can be taken back is kept. -/
namespace Go.Proofs.YtffgkocokkhahaaDoor
open Go.RowKit

theorem info_undo : (Tryd.prog.info? 225).map (fun i => (i.zero, i.size, i.bytes)) = some (some (.agg #[.int .i64 0, .int .i64 0, .slice none 0 0]), 3, 40) := by kernel_rfl

/-- A memory store in a transaction, and the blocks that it turns. -/
structure StoreAt (w : World) (m : Nat) (n : Nat) (r : Nat) (L : Value) : Prop where
  mem : ∃ cs, w.heap[m]? = some (.cells cs 167 (0, 0)) ∧ cs[4]? = some (ptr r)
  roll : ∃ p s, w.heap[r]? = some (.cells #[L, p, s] 176 (0, 0))
  own : ∃ xs, w.ownsRow 0 225 3 L n xs

def UndoP (m n : Nat) (r : Nat) (L : Value) (w : World) (y : Ending) (w' : World) : Prop :=
  y = .returned (.tuple #[]) ∧ ∃ L', StoreAt w' m n r L' ∧ Chg (fun b => b = r ∨ L.ownBlock = some b) w w' ∧ (∀ b, L'.ownBlock = some b → L.ownBlock = some b ∨ w.heap.size ≤ b)

theorem own_ne {w : World} {b : Nat} {cs : Array Value} {t e : TypeId} {fr : Nat × Nat} {base size n : Nat} {v : Value} {xs : List Value} (h : w.ownsRow base e size v n xs) (hb : w.heap[b]? = some (.cells cs t fr)) (hne : e ≠ t) : v.ownBlock ≠ some b := by
  rcases h.2 with ⟨rfl, _⟩ | ⟨g, cap, cur, rfl, _, hh, _⟩
  · simp [Value.ownBlock]
  · intro he
    have : g = b := by simpa [Value.ownBlock] using he
    subst this
    rw [hb] at hh
    injection hh with hh
    injection hh with _ ht
    exact hne ht.symm

set_option maxRecDepth 100000 in
set_option maxHeartbeats 3200000 in
theorem undo_any (m n r : Nat) (L : Value) (w : World) (h : StoreAt w m n r L) (hn : n ≤ 100000) (tag hh : Int) (A : Option Addr) (c d : Nat) :
    Calls Tryd.prog 84 #[.pointer (some ⟨m, 0, none⟩), .int .i64 tag, .int .i64 hh, .slice A c d] w (UndoP m (n + 1) r L w) := by
  obtain ⟨⟨cs, hm, h4⟩, ⟨p, s, hr⟩, ⟨xs, hown⟩⟩ := h
  obtain ⟨i0, hi0, hz0, hz1, hz2⟩ := info_parts info_undo
  have c4 : w.cell? ⟨m, 4, none⟩ = some (.pointer (some ⟨r, 0, none⟩)) := (cell_of_heap hm 4).trans h4
  have c0 : w.cell? ⟨r, 0, none⟩ = some L := cell_of_heap hr 0
  have f0 : w.frozen? ⟨r, 0, none⟩ = false := free_of_heap hr 0
  have lm := lt_of_heap hm
  have lr := lt_of_heap hr
  have am : L.ownBlock ≠ some m := own_ne hown hm (by decide)
  have ar : L.ownBlock ≠ some r := own_ne hown hr (by decide)
  have hmr : m ≠ r := by rintro rfl; rw [hm] at hr; injection hr with hr; injection hr with _ ht; exact absurd ht (by decide)
  have HM := Lib.hid hm
  have HR := Lib.hid hr
  clear hm hr
  go_enter Tryd.func84, Tryd.ntmps84
  go_wp2_with fail
  go_region_law
    ((refine step_append_lies _ (by rfl) _ _ _ (by rfl) 0 225 i0 _ 3 40 Tryd.underlying174 hi0 hz0 hz1 hz2 rfl (by omega) L n xs (by rfl) ((hown.alloc _).drew)
        ⟨w.heap.size, 0, none⟩ 1 1 [.int .i64 tag, .int .i64 hh, .slice A c d] (by rfl) (by rfl) (World.news_of_block (cs := #[.int .i64 tag, .int .i64 hh, .slice A c d]) (t := 225) (fr := (0, 0)) (heap_alloc_new w _)) (by simp [Value.oneCell'])
        (by omega) (by simp only [maxLen]; omega) (by omega) (Nat.zero_le _) (w.heap.size + 1) (by simp) ?_; intro gg cap w1 hown1 hgrow hat hlt; have HR1 : Hid (w1.heap[r]? = some (.cells #[L, p, s] 176 (0, 0))) := Lib.hid ((hgrow.block r (by simp; omega) (Ne.symm ar)).trans ((heap_alloc_ne w r _ lr).trans HR.out)); have f1 : w1.frozen? ⟨r, 0, none⟩ = false := free_of_heap HR1.out 0; have d1 : w1.cell? ⟨r, 0, none⟩ = some L := cell_of_heap HR1.out 0; have HM1 : Hid (w1.heap[m]? = some (.cells cs 167 (0, 0))) := Lib.hid ((hgrow.block m (by simp; omega) (Ne.symm am)).trans ((heap_alloc_ne w m _ lm).trans HM.out)); have d4 : w1.cell? ⟨m, 4, none⟩ = some (.pointer (some ⟨r, 0, none⟩)) := (cell_of_heap HM1.out 4).trans h4))
  all_goals
    go_wp2
    first | go_end0 | refine bodyPost_ret (results_none rfl _ _ _) rfl ?_
    have hgr : gg ≠ r := by
      have := own_ne hown1 HR1.out (by decide)
      simpa [Value.ownBlock] using this
    refine ⟨rfl, .slice (some ⟨gg, 0, none⟩) (n + 1) cap, ⟨⟨cs, heap_set_ne HM1.out _ _ hmr, h4⟩, ⟨p, s, heap_set HR1.out 0 _⟩, ⟨_, ownsRow_setCell_other hown1 (by simp [Value.ownBlock]; exact hgr) _⟩⟩, ?_, ?_⟩
    · refine ⟨hgrow.os, hgrow.tape, hgrow.output, by have := hgrow.size; simp at this ⊢; omega, fun k hk hS => ?_⟩
      rw [Below.heap_setCell _ _ _ k (fun h => hS (.inl h))]
      exact (hgrow.block k (by simp; omega) (fun h => hS (.inr h.symm))).trans (heap_alloc_ne w k _ hk)
    · intro b hb
      have : gg = b := by simpa [Value.ownBlock] using hb
      subst this
      rcases hat with h | h
      · exact .inl h
      · exact .inr (by omega)

end Go.Proofs.YtffgkocokkhahaaDoor
