/-
  (*xtree).insert.
-/
import Derived.Test.YtffgkocokkhahaaGreatDoorXp
import Derived.BigRegion
import Derived.IntWalk
import Derived.StillTailTactics
namespace Go.Proofs.YtffgkocokkhahaaGreatDoor
open Go.RowKit

theorem szde : (Tryz.prog.info? 172).map (·.size) = some 3 := by kernel_rfl
theorem arrde : Tryz.prog.underlying 173 = some (.array 129 172) := by kernel_rfl

def InsertP (t q : Nat) (es : List XE) (rest : List Value) (nx pv : Value) (c : Int) (fi la r : Value) (w : World) (x : Ending) (w' : World) : Prop :=
  x = .returned (.pointer (some ⟨q, 0, none⟩)) ∧ PageAt w' q es rest nx pv ∧ (∃ ver, TreeW w' t (c + 1) fi la r ver) ∧ Chg (fun b => b = t ∨ b = q) w w'

/-- What the last stores leave. -/
theorem insert_end {q i : Nat} {es : List XE} {rest : List Value} {nx pv : Value} {e : XE} {w w3 : World} {L : List Value}
    (hL : splice (pgL XE.cells es rest [nx, pv]) (1 + (i + 1) * 3) (flat XE.cells (es.drop i)) = L)
    (hq : PageAt w q es rest nx pv) (hi : i ≤ es.length) (hl : es.length ≤ 128)
    (hq2 : w3.heap[q]? = some (.cells ((((L.set 0 (.int .i64 (es.length + 1 : Nat))).set (1 + i * 3) (.slice e.A e.m e.p)).set (1 + i * 3 + 1) (.int .i64 e.h)).set (1 + i * 3 + 2) (.int .i64 e.n)).toArray 175 (0, 0))) :
    PageAt w3 q (es.take i ++ e :: es.drop i) (rest.drop 3) nx pv := by
  have hr := hq.room
  have hlen : (pgL XE.cells es rest [nx, pv]).length = 390 := by rw [pgL_length XE.cells 3 XE.three]; simp; omega
  have hfl : (flat XE.cells (es.drop i)).length = (es.length - i) * 3 := by rw [flat_length XE.cells 3 XE.three, List.length_drop]
  refine ⟨?_, by simp [List.length_take, Nat.min_eq_left hi]; omega, fun x hx => hq.one x (List.mem_of_mem_drop hx)⟩
  rw [hq2]
  have h := ins_row XE.cells 3 XE.three es rest [nx, pv] i e hi (by omega)
  rw [hL] at h
  rw [← h, set3_splice _ _ _ _ _ (by rw [List.length_set, ← hL, length_splice _ _ _ (by omega)]; omega)]
  rfl

set_option maxRecDepth 100000 in
set_option maxHeartbeats 1000000 in
theorem insert_mid (t q : Nat) (i : Nat) (es : List XE) (rest : List Value) (nx pv : Value) (e : XE) (c : Int) (fi la r : Value) (ver : Int) (w : World)
    (hq : PageAt w q es rest nx pv) (ht : TreeW w t c fi la r ver) (hne : ¬ t = q) (hi : i < es.length) (hl : es.length ≤ 128) (c0 : 0 ≤ c) (c1 : c ≤ 2147483647) :
    Calls Tryz.prog 85 #[.pointer (some ⟨t, 0, none⟩), .pointer (some ⟨q, 0, none⟩), .int .i64 i, .agg #[.slice e.A e.m e.p, .int .i64 e.h], .int .i64 e.n] w
      (InsertP t q (es.take i ++ e :: es.drop i) (rest.drop 3) nx pv c fi la r w) := by
  obtain ⟨n, hn⟩ : ∃ n, n = es.length := ⟨_, rfl⟩
  have ct0 : w.cell? ⟨t, 0, none⟩ = some (.int .i64 c) := cell_of_heap ht 0
  have ct4 : w.cell? ⟨t, 4, none⟩ = some (.int .i64 ver) := cell_of_heap ht 4
  have ft0 : w.frozen? ⟨t, 0, none⟩ = false := free_of_heap ht 0
  have ft4 : w.frozen? ⟨t, 4, none⟩ = false := free_of_heap ht 4
  have cq0 : w.cell? ⟨q, 0, none⟩ = some (.int .i64 n) := by rw [hq.cell, hn]; rfl
  have fq0 : w.frozen? ⟨q, 0, none⟩ = false := hq.free 0
  have lt := lt_of_heap ht
  have lq := hq.lt
  have hne' : ¬ q = t := fun h => hne h.symm
  have hlen : (pgL XE.cells es rest [nx, pv]).length = 390 := by have := hq.room; rw [pgL_length XE.cells 3 XE.three]; simp; omega
  have hfl : (flat XE.cells (es.drop i)).length = (es.length - i) * 3 := by rw [flat_length XE.cells 3 XE.three, List.length_drop]
  have HLEN := Lib.hid hlen
  have HFL := Lib.hid hfl
  have H5 := Lib.hid (flat_one (es.drop i))
  have HSRC := Lib.hid (fun j v (h : (flat XE.cells (es.drop i))[j]? = some v) => (hq.cell (1 + i * 3 + j)).trans (pgL_src XE.cells 3 XE.three es rest [nx, pv] i es.length j v (by rw [List.take_of_length_le (by simp)]; exact h)))
  have HI := Lib.hid (Nat.le_of_lt hi)
  have HLE := Lib.hid hl
  rw [← hn] at hi hl
  have HN := Lib.hid hn
  have HQ := Lib.hid hq
  have HT := Lib.hid ht
  clear hn hq ht hlen hfl
  obtain ⟨L, hL⟩ : ∃ L, splice (pgL XE.cells es rest [nx, pv]) (1 + (i + 1) * 3) (flat XE.cells (es.drop i)) = L := ⟨_, rfl⟩
  have HL := Lib.hid hL
  clear hL
  go_enter Tryz.func85, Tryz.ntmps85
  go_wp2
  obtain ⟨k, hk⟩ : ∃ k, k = i + 1 := ⟨_, rfl⟩
  have hw : IntKind.i64.wrap (↑i + 1) = (k : Int) := by rw [hk, IntWalk.i64_in _ (by omega)]; rfl
  have hs1 := run_cut_l (P := Tryz.prog) arrde szde q 1 k (by omega)
  have hs2 := run_cut_lh (P := Tryz.prog) arrde szde q 1 i n (by omega) (by omega) (by omega)
  have HK := Lib.hid hk
  clear hk
  obtain ⟨w1, hw1⟩ : ∃ w1, w1 = ((w.setCell ⟨t, 4, none⟩ (.int .i64 (wrap64 (ver + 1)))).alloc (.cells #[.slice e.A e.m e.p, .int .i64 e.h] 136)).drew := ⟨_, rfl⟩
  have hC1 : Chg (fun b => b = t ∨ b = q) w w1 := by rw [hw1]; exact (((Chg.refl _ _).setCell (.inl (.inl rfl)) _).alloc _).drew
  have hQ1 : PageAt w1 q es rest nx pv := ⟨by rw [hw1, heap_drew, heap_alloc_ne _ _ _ (by simpa using lq), heap_setCell_ne _ _ _ _ _ hne']; exact HQ.out.heap, HQ.out.room, HQ.out.one⟩
  have hT1 : TreeW w1 t c fi la r (wrap64 (ver + 1)) := by
    unfold TreeW
    rw [hw1, heap_drew, heap_alloc_ne _ _ _ (by simpa using lt), heap_setCell_at, HT.out]
    rfl
  have hB1 : w1.heap[w.heap.size]? = some (.cells #[.slice e.A e.m e.p, .int .i64 e.h] 136 (0, 0)) := by
    rw [hw1, heap_drew]
    have h := heap_new (w.setCell ⟨t, 4, none⟩ (.int .i64 (wrap64 (ver + 1)))) (.cells #[.slice e.A e.m e.p, .int .i64 e.h] 136)
    simpa using h
  have HC1 := Lib.hid hC1
  have HQ1 := Lib.hid hQ1
  have HT1 := Lib.hid hT1
  have HB1 := Lib.hid hB1
  clear hC1 hQ1 hT1 hB1
  go_still_tail 12, (by kernel_rfl)
  change wpList _ _ _ _ _ (((w.setCell ⟨t, 4, none⟩ (.int .i64 (wrap64 (ver + 1)))).alloc (.cells #[.slice e.A e.m e.p, .int .i64 e.h] 136)).drew)
  rw [← hw1]
  clear hw1 ct0 ct4 ft0 ft4 cq0 fq0 hs1 hs2 hw
  refine wpList_copy_rows rfl (.tmp 31) (.tmp 37) 220 220 rfl 172 3 Tryz.underlying220 szde (some ⟨q, 1 + k * 3, none⟩) (some ⟨q, 1 + i * 3, none⟩) (129 - k) (129 - k) (n - i) (129 - i) rfl rfl
    q (1 + k * 3) (pgL XE.cells es rest [nx, pv]).toArray 175 HQ1.out.heap (flat XE.cells (es.drop i)) ?c2 (by omega) ?c3 ?c4 H5.out ?_
  case c2 => rw [HFL.out, ← HN.out, HK.out]; show (n - i) * 3 = min (n - i) (129 - (i + 1)) * 3; rw [Nat.min_eq_left (by omega)]
  case c3 => exact fun _ => ⟨rfl, _, rfl, fun j v h => by rw [add_mk, HQ1.out.cell]; exact pgL_src XE.cells 3 XE.three es rest [nx, pv] i es.length j v (by rw [List.take_of_length_le (by simp)]; exact h)⟩
  case c4 => rw [HFL.out, List.size_toArray, HLEN.out, ← HN.out, HK.out]; omega
  intro w2 HG2 HC2
  rw [HK.out, List.toList_toArray, HL.out] at HG2
  have HT2 := Lib.hid (HT1.out.chg HC2.out hne)
  have HB2 := Lib.hid (heap_chg HB1.out HC2.out (by omega))
  have hLl := HL.out
  have hLlen : L.length = 390 := by rw [← hLl, length_splice _ _ _ (by rw [HFL.out, HLEN.out, ← HN.out]; omega)]; exact HLEN.out
  have cq0 : w2.cell? ⟨q, 0, none⟩ = some (.int .i64 n) := by
    rw [cell_of_heap HG2.out, List.getElem?_toArray, ← hLl, splice_low _ _ _ 0 (by omega) (by rw [HLEN.out]; omega), HN.out]
    rfl
  obtain ⟨u1, cu1⟩ : ∃ u, w2.cell? ⟨q, 1 + i * 3, none⟩ = some u := ⟨L[1 + i * 3], by rw [cell_of_heap HG2.out, List.getElem?_toArray]; exact List.getElem?_eq_getElem _⟩
  obtain ⟨u2, cu2⟩ : ∃ u, w2.cell? ⟨q, 1 + i * 3 + 1, none⟩ = some u := ⟨L[1 + i * 3 + 1], by rw [cell_of_heap HG2.out, List.getElem?_toArray]; exact List.getElem?_eq_getElem _⟩
  obtain ⟨u3, cu3⟩ : ∃ u, w2.cell? ⟨q, 1 + i * 3 + 2, none⟩ = some u := ⟨L[1 + i * 3 + 2], by rw [cell_of_heap HG2.out, List.getElem?_toArray]; exact List.getElem?_eq_getElem _⟩
  have fq0 : w2.frozen? ⟨q, 0, none⟩ = false := free_of_heap HG2.out 0
  have fu1 : w2.frozen? ⟨q, 1 + i * 3, none⟩ = false := free_of_heap HG2.out _
  have fu2 : w2.frozen? ⟨q, 1 + i * 3 + 1, none⟩ = false := free_of_heap HG2.out _
  have fu3 : w2.frozen? ⟨q, 1 + i * 3 + 2, none⟩ = false := free_of_heap HG2.out _
  have ct0 : w2.cell? ⟨t, 0, none⟩ = some (.int .i64 c) := cell_of_heap HT2.out 0
  have ft0 : w2.frozen? ⟨t, 0, none⟩ = false := free_of_heap HT2.out 0
  have cb0 : w2.cell? ⟨w.heap.size, 0, none⟩ = some (.slice e.A e.m e.p) := cell_of_heap HB2.out 0
  have cb1 : w2.cell? ⟨w.heap.size, 1, none⟩ = some (.int .i64 e.h) := cell_of_heap HB2.out 1
  have nb1 : ¬ w.heap.size = q := by omega
  have nb2 : ¬ w.heap.size = t := by omega
  clear hLl
  go_wp2
  obtain ⟨w3, hw3⟩ : ∃ w3, w3 = w2.setCell ⟨q, 0, none⟩ (.int .i64 (↑n + 1)) := ⟨_, rfl⟩
  rw [← hw3]
  have z1 : ∀ b o, (¬ b = q ∨ ¬ o = 0) → w3.cell? ⟨b, o, none⟩ = w2.cell? ⟨b, o, none⟩ := fun b o h => by
    rw [hw3]
    exact World.cell?_setCell_other _ _ _ _ (fun e => by injection e with e1 e2; rcases h with h | h <;> exact h (by first | exact e1 | exact e2 | exact e1.symm | exact e2.symm))
  have z2 : ∀ b o, w3.frozen? ⟨b, o, none⟩ = w2.frozen? ⟨b, o, none⟩ := fun b o => by rw [hw3]; simp
  replace cu1 := (z1 _ _ (.inr (by omega))).trans cu1
  replace cu2 := (z1 _ _ (.inr (by omega))).trans cu2
  replace cu3 := (z1 _ _ (.inr (by omega))).trans cu3
  replace fu1 := (z2 _ _).trans fu1
  replace fu2 := (z2 _ _).trans fu2
  replace fu3 := (z2 _ _).trans fu3
  replace ct0 := (z1 _ _ (.inl hne)).trans ct0
  replace ft0 := (z2 _ _).trans ft0
  replace cb0 := (z1 _ _ (.inl nb1)).trans cb0
  replace cb1 := (z1 _ _ (.inl nb1)).trans cb1
  have HW3 := Lib.hid hw3
  clear z1 z2 hw3 cq0 fq0
  have hi3 : (i : Int) < 129 := by omega
  have hi4 : (0 : Int) ≤ i := by omega
  go_region
  all_goals go_wp2
  all_goals
    go_ret
    refine ⟨rfl, insert_end HL.out HQ.out HI.out HLE.out ?_, ⟨wrap64 (ver + 1), ?_⟩, ?_⟩
    · simp only [heap_drew, heap_setCell_ne _ _ _ _ _ hne', heap_setCell_at, HW3.out, HG2.out, Option.map_some, updObj_cells, List.setIfInBounds_toArray, HN.out]
      first | rfl | (rw [List.set_comm]; rfl)
    · unfold TreeW
      simp only [heap_drew, heap_setCell_ne _ _ _ _ _ hne, heap_setCell_at, HW3.out, show w2.heap[t]? = _ from HT2.out, Option.map_some, updObj_cells]
      rfl
    · rw [HW3.out]
      exact (HC1.out.trans (HC2.out.mono fun b _ h => .inr h)).trans (by repeat (first | exact Chg.refl _ _ | refine Chg.drew ?_ | refine Chg.setCell ?_ (by first | exact .inl (.inl rfl) | exact .inl (.inr rfl)) _))
set_option maxRecDepth 100000 in
set_option maxHeartbeats 1000000 in
theorem insert_last (t q : Nat) (i : Nat) (es : List XE) (rest : List Value) (nx pv : Value) (e : XE) (c : Int) (fi la r : Value) (ver : Int) (w : World)
    (hq : PageAt w q es rest nx pv) (ht : TreeW w t c fi la r ver) (hne : ¬ t = q) (hi : i = es.length) (hl : es.length ≤ 128) (c0 : 0 ≤ c) (c1 : c ≤ 2147483647) :
    Calls Tryz.prog 85 #[.pointer (some ⟨t, 0, none⟩), .pointer (some ⟨q, 0, none⟩), .int .i64 i, .agg #[.slice e.A e.m e.p, .int .i64 e.h], .int .i64 e.n] w
      (InsertP t q (es.take i ++ e :: es.drop i) (rest.drop 3) nx pv c fi la r w) := by
  have hlen : (pgL XE.cells es rest [nx, pv]).length = 390 := by have := hq.room; rw [pgL_length XE.cells 3 XE.three]; simp; omega
  have HL : splice (pgL XE.cells es rest [nx, pv]) (1 + (i + 1) * 3) (flat XE.cells (es.drop i)) = pgL XE.cells es rest [nx, pv] := by
    rw [hi, List.drop_length]
    exact splice_nil _ _
  have ct0 : w.cell? ⟨t, 0, none⟩ = some (.int .i64 c) := cell_of_heap ht 0
  have ct4 : w.cell? ⟨t, 4, none⟩ = some (.int .i64 ver) := cell_of_heap ht 4
  have ft0 : w.frozen? ⟨t, 0, none⟩ = false := free_of_heap ht 0
  have ft4 : w.frozen? ⟨t, 4, none⟩ = false := free_of_heap ht 4
  have cq0 : w.cell? ⟨q, 0, none⟩ = some (.int .i64 i) := by rw [hq.cell, hi]; rfl
  have fq0 : w.frozen? ⟨q, 0, none⟩ = false := hq.free 0
  have lt := lt_of_heap ht
  have lq := hq.lt
  have hne' : ¬ q = t := fun h => hne h.symm
  obtain ⟨u1, cu1⟩ : ∃ u, w.cell? ⟨q, 1 + i * 3, none⟩ = some u := ⟨_, (hq.cell _).trans (List.getElem?_eq_getElem (by rw [hlen]; omega))⟩
  obtain ⟨u2, cu2⟩ : ∃ u, w.cell? ⟨q, 1 + i * 3 + 1, none⟩ = some u := ⟨_, (hq.cell _).trans (List.getElem?_eq_getElem (by rw [hlen]; omega))⟩
  obtain ⟨u3, cu3⟩ : ∃ u, w.cell? ⟨q, 1 + i * 3 + 2, none⟩ = some u := ⟨_, (hq.cell _).trans (List.getElem?_eq_getElem (by rw [hlen]; omega))⟩
  have fu1 : w.frozen? ⟨q, 1 + i * 3, none⟩ = false := hq.free _
  have fu2 : w.frozen? ⟨q, 1 + i * 3 + 1, none⟩ = false := hq.free _
  have fu3 : w.frozen? ⟨q, 1 + i * 3 + 2, none⟩ = false := hq.free _
  have hi9 : i ≤ 128 := by omega
  have HLN := Lib.hid HL
  have HI := Lib.hid (Nat.le_of_eq hi)
  have HLE := Lib.hid hl
  have HN := Lib.hid hi
  have HQ := Lib.hid hq
  have HT := Lib.hid ht
  clear hq ht hlen HL hi hl
  go_enter Tryz.func85, Tryz.ntmps85
  go_wp2
  obtain ⟨w3, hw3⟩ : ∃ w3, w3 = ((w.setCell ⟨t, 4, none⟩ (.int .i64 (wrap64 (ver + 1)))).setCell ⟨q, 0, none⟩ (.int .i64 (↑i + 1))).alloc (.cells #[.slice e.A e.m e.p, .int .i64 e.h] 136) := ⟨_, rfl⟩
  rw [← hw3]
  have HG3 := Lib.hid (show w3.heap[q]? = some (.cells ((pgL XE.cells es rest [nx, pv]).set 0 (.int .i64 (↑i + 1))).toArray 175 (0, 0)) by
    rw [hw3, heap_alloc_ne _ _ _ (by simpa using lq), heap_setCell_at, heap_setCell_ne _ _ _ _ _ hne', HQ.out.heap]
    simp [updObj_cells])
  have HT3 := Lib.hid (show w3.heap[t]? = some (.cells #[.int .i64 c, fi, la, r, .int .i64 (wrap64 (ver + 1))] 168 (0, 0)) by
    rw [hw3, heap_alloc_ne _ _ _ (by simpa using lt), heap_setCell_ne _ _ _ _ _ hne, heap_setCell_at, show w.heap[t]? = _ from HT.out]
    rfl)
  have HB3 := Lib.hid (show w3.heap[w.heap.size]? = some (.cells #[.slice e.A e.m e.p, .int .i64 e.h] 136 (0, 0)) by
    rw [hw3]
    have h := heap_new ((w.setCell ⟨t, 4, none⟩ (.int .i64 (wrap64 (ver + 1)))).setCell ⟨q, 0, none⟩ (.int .i64 (↑i + 1))) (.cells #[.slice e.A e.m e.p, .int .i64 e.h] 136)
    simpa using h)
  have HC3 := Lib.hid (show Chg (fun b => b = t ∨ b = q) w w3 by
    rw [hw3]
    exact (((Chg.refl _ _).setCell (.inl (.inl rfl)) _).setCell (.inl (.inr rfl)) _).alloc _)
  have z1 : ∀ o, ¬ o = 0 → w3.cell? ⟨q, o, none⟩ = w.cell? ⟨q, o, none⟩ := fun o h => by
    rw [cell_of_heap HG3.out, HQ.out.cell, List.getElem?_toArray, List.getElem?_set_ne (fun e => h e.symm)]
  replace cu1 := (z1 _ (by omega)).trans cu1
  replace cu2 := (z1 _ (by omega)).trans cu2
  replace cu3 := (z1 _ (by omega)).trans cu3
  replace fu1 : w3.frozen? ⟨q, 1 + i * 3, none⟩ = false := free_of_heap HG3.out _
  replace fu2 : w3.frozen? ⟨q, 1 + i * 3 + 1, none⟩ = false := free_of_heap HG3.out _
  replace fu3 : w3.frozen? ⟨q, 1 + i * 3 + 2, none⟩ = false := free_of_heap HG3.out _
  replace ct0 : w3.cell? ⟨t, 0, none⟩ = some (.int .i64 c) := cell_of_heap HT3.out 0
  replace ft0 : w3.frozen? ⟨t, 0, none⟩ = false := free_of_heap HT3.out 0
  have cb0 : w3.cell? ⟨w.heap.size, 0, none⟩ = some (.slice e.A e.m e.p) := cell_of_heap HB3.out 0
  have cb1 : w3.cell? ⟨w.heap.size, 1, none⟩ = some (.int .i64 e.h) := cell_of_heap HB3.out 1
  have nb1 : ¬ w.heap.size = q := by omega
  have nb2 : ¬ w.heap.size = t := by omega
  clear z1 hw3 cq0 fq0 ct4 ft4
  have hi3 : (i : Int) < 129 := by omega
  have hi4 : (0 : Int) ≤ i := by omega
  go_region
  all_goals go_wp2
  all_goals
    go_ret
    refine ⟨rfl, insert_end HLN.out HQ.out HI.out HLE.out ?_, ⟨wrap64 (ver + 1), ?_⟩, ?_⟩
    · simp only [heap_drew, heap_setCell_ne _ _ _ _ _ hne', heap_setCell_at, HG3.out, Option.map_some, updObj_cells, List.setIfInBounds_toArray, HN.out]
      first | rfl | (rw [List.set_comm]; rfl)
    · unfold TreeW
      simp only [heap_drew, heap_setCell_ne _ _ _ _ _ hne, heap_setCell_at, HT3.out, Option.map_some, updObj_cells]
      rfl
    · exact HC3.out.trans (by repeat (first | exact Chg.refl _ _ | refine Chg.drew ?_ | refine Chg.setCell ?_ (by first | exact .inl (.inl rfl) | exact .inl (.inr rfl)) _))

theorem insert_any (t q : Nat) (i : Nat) (es : List XE) (rest : List Value) (nx pv : Value) (e : XE) (c : Int) (fi la r : Value) (ver : Int) (w : World)
    (hq : PageAt w q es rest nx pv) (ht : TreeW w t c fi la r ver) (hne : ¬ t = q) (hi : i ≤ es.length) (hl : es.length ≤ 128) (c0 : 0 ≤ c) (c1 : c ≤ 2147483647) :
    Calls Tryz.prog 85 #[.pointer (some ⟨t, 0, none⟩), .pointer (some ⟨q, 0, none⟩), .int .i64 i, .agg #[.slice e.A e.m e.p, .int .i64 e.h], .int .i64 e.n] w
      (InsertP t q (es.take i ++ e :: es.drop i) (rest.drop 3) nx pv c fi la r w) := by
  rcases Nat.lt_or_ge i es.length with h | h
  · exact insert_mid t q i es rest nx pv e c fi la r ver w hq ht hne h hl c0 c1
  · exact insert_last t q i es rest nx pv e c fi la r ver w hq ht hne (by omega) hl c0 c1

end Go.Proofs.YtffgkocokkhahaaGreatDoor
