/-
  (*tree).extract: an entry is taken out of a page. || (*tree).underflow under a root: a page with too few entries takes one of a neighbour's, or becomes one page with it. PRINTED BY wip/tpl/gen_yun.py. || Where a key stands: which page, and where in it.
-/
import Derived.Test.YtffgkocokkhahaaDoorTp19
import Derived.Test.YtffgkocokkhahaaDoorTp14
import Derived.Test.YtffgkocokkhahaaDoorTp17

/- (*tree).extract: an entry is taken out of a page. -/
namespace Go.Proofs.YtffgkocokkhahaaDoor
open Go.RowKit
variable {G : Value}

def ExtractP (G : Value) (t q : Nat) (es : List XE) (nx pv : Value) (c : Int) (fi la r : Value) (w : World) (y : Ending) (w' : World) : Prop :=
  y = .returned (.tuple #[]) ∧ (∃ rest, PageAt w' q es rest nx pv) ∧ (∃ ver, TreeW G w' t c fi la r ver) ∧ Chg (fun b => b = t ∨ b = q) w w'

theorem ext_page {w : World} {q i : Nat} {es : List XE} {rest : List Value} {nx pv : Value} {L : List Value} (hq : PageAt w q es rest nx pv) (hi : i < es.length)
    (hL : splice ((pgL XE.cells es rest [nx, pv]).set 0 (.int .i64 (es.length - 1 : Nat))) (1 + i * 2) (flat XE.cells (es.drop (i + 1))) = L) {w' : World}
    (hw : w'.heap[q]? = some (.cells ((L.set (1 + (es.length - 1) * 2) (.slice none 0 0)).set (1 + (es.length - 1) * 2 + 1) (.slice none 0 0)).toArray 132 (0, 0))) :
    PageAt w' q (es.eraseIdx i) ([.slice none 0 0, .slice none 0 0] ++ rest) nx pv := by
  have hr := hq.room
  have hfl : (flat XE.cells (es.drop (i + 1))).length = (es.length - (i + 1)) * 2 := by rw [flat_len, List.length_drop]
  have hlen := page_len hq
  have hLl : L.length = 261 := by rw [← hL, length_splice _ _ _ (by rw [List.length_set, hlen, hfl]; omega), List.length_set]; exact hlen
  refine ⟨?_, ?_, fun x hx => ?_⟩
  · rw [hw, set2_splice _ _ _ _ (by rw [hLl]; omega)]
    rw [← hL, ext_row XE.cells 2 XE.two es rest [nx, pv] [.slice none 0 0, .slice none 0 0] i hi rfl]
  · rw [List.length_eraseIdx_of_lt hi]
    simp
    omega
  · rcases List.mem_append.1 hx with h | h
    · simp at h
      subst h
      rfl
    · exact hq.one x h

set_option maxRecDepth 100000 in
set_option maxHeartbeats 1000000 in
theorem extract_any (t q i : Nat) (es : List XE) (rest : List Value) (nx pv : Value) (c : Int) (fi la r : Value) (ver : Int) (w : World)
    (hq : PageAt w q es rest nx pv) (ht : TreeW G w t c fi la r ver) (hne : ¬ t = q) (hi : i < es.length) (c0 : 0 ≤ c) (c1 : c ≤ 2147483647) :
    Calls Tryd.prog 75 #[.pointer (some ⟨t, 0, none⟩), .pointer (some ⟨q, 0, none⟩), .int .i64 i] w (ExtractP G t q (es.eraseIdx i) nx pv (c - 1) fi la r w) := by
  have hle := hq.le
  obtain ⟨n, hn⟩ : ∃ n, es.length = n + 1 := ⟨es.length - 1, by omega⟩
  have hn1 : es.length - 1 = n := by omega
  have ct0 : w.cell? ⟨t, 0, none⟩ = some (.int .i64 c) := cell_of_heap ht 0
  have ct5 : w.cell? ⟨t, 5, none⟩ = some (.int .i64 ver) := cell_of_heap ht 5
  have ft0 : w.frozen? ⟨t, 0, none⟩ = false := free_of_heap ht 0
  have ft5 : w.frozen? ⟨t, 5, none⟩ = false := free_of_heap ht 5
  have hn2 : ((n + 1 : Nat) : Int) - 1 = (n : Int) := by omega
  obtain ⟨n1, hn1'⟩ : ∃ n1, n1 = n + 1 := ⟨_, rfl⟩
  rw [← hn1'] at hn hn2
  have cq0 : w.cell? ⟨q, 0, none⟩ = some (.int .i64 n1) := by rw [hq.cell, ← hn]; rfl
  have fq0 : w.frozen? ⟨q, 0, none⟩ = false := hq.free 0
  have lt := lt_of_heap ht
  have lq := hq.lt
  have hne' : ¬ q = t := fun h => hne h.symm
  have hn9 : n1 ≤ 129 := by omega
  have hin : i ≤ n := by omega
  obtain ⟨M, hM⟩ : ∃ M, M = flat XE.cells (es.drop (i + 1)) := ⟨_, rfl⟩
  have hMl : M.length = (n - i) * 2 := by rw [hM, flat_len, List.length_drop]; omega
  obtain ⟨L0, hL0⟩ : ∃ L0, L0 = (pgL XE.cells es rest [nx, pv]).set 0 (.int .i64 n) := ⟨_, rfl⟩
  have hL0l : L0.length = 261 := by rw [hL0, List.length_set]; exact page_len hq
  obtain ⟨L, hL⟩ : ∃ L, splice L0 (1 + i * 2) M = L := ⟨_, rfl⟩
  have hLl : L.length = 261 := by rw [← hL, length_splice _ _ _ (by rw [hL0l, hMl]; omega)]; exact hL0l
  have HM1 := Lib.hid (show ∀ v ∈ M, v.oneCell' = true by rw [hM]; exact flat_one _)
  have HSRC := Lib.hid (show ∀ (j : Nat) (v : Value), M[j]? = some v → L0[1 + (i + 1) * 2 + j]? = some v from fun j v h => by
    rw [hL0, List.getElem?_set_ne (by omega)]
    exact pgL_src XE.cells 2 XE.two es rest [nx, pv] (i + 1) es.length j v (by rw [List.take_of_length_le (by simp)]; rw [← hM]; exact h))
  have HFIN := Lib.hid (fun (w' : World) (hw : w'.heap[q]? = some (.cells ((L.set (1 + n * 2) (.slice none 0 0)).set (1 + n * 2 + 1) (.slice none 0 0)).toArray 132 (0, 0))) => ext_page hq hi (L := L) (by rw [hn1, ← hL, hL0, hM]) (w' := w') (by rw [hn1]; exact hw))
  have HQ := Lib.hid hq
  have HT := Lib.hid ht
  have HML := Lib.hid hMl
  have HL0 := Lib.hid hL0
  have HL0l := Lib.hid hL0l
  have HL := Lib.hid hL
  have HLl := Lib.hid hLl
  have HN := Lib.hid hn1'
  clear hq ht hM hMl hL0 hL0l hL hLl hn hn1 hle hi hn1'
  go_enter Tryd.func75, Tryd.ntmps75
  rcases Nat.lt_or_ge i n with hlt | hge
  · have hic : (i : Int) < n := by omega
    go_wp2
    obtain ⟨w1, hw1⟩ : ∃ w1, w1 = (w.setCell ⟨t, 5, none⟩ (.int .i64 (wrap64 (ver + 1)))).setCell ⟨q, 0, none⟩ (.int .i64 n) := ⟨_, rfl⟩
    rw [← hw1]
    have hG1 : w1.heap[q]? = some (.cells L0.toArray 132 (0, 0)) := by
      rw [hw1, heap_setCell_at, heap_setCell_ne _ _ _ _ _ hne', HQ.out.heap, HL0.out]
      simp [updObj_cells]
    have HG1 := Lib.hid hG1
    have HT1 := Lib.hid (show TreeW G w1 t c fi la r (wrap64 (ver + 1)) by
      unfold TreeW
      rw [hw1, heap_setCell_ne _ _ _ _ _ hne, heap_setCell_at, show w.heap[t]? = _ from HT.out]
      rfl)
    have HC1 := Lib.hid (show Chg (fun b => b = t ∨ b = q) w w1 by rw [hw1]; exact ((Chg.refl _ _).setCell (.inl (.inl rfl)) _).setCell (.inl (.inr rfl)) _)
    have dq0 : w1.cell? ⟨q, 0, none⟩ = some (.int .i64 n) := by
      rw [cell_of_heap HG1.out, List.getElem?_toArray, HL0.out]
      rfl
    obtain ⟨k, hk⟩ : ∃ k, k = i + 1 := ⟨_, rfl⟩
    have hkw : ((i : Int) + 1) = (k : Int) := by omega
    have hkw2 : IntKind.i64.wrap (k : Int) = (k : Int) := IntWalk.i64_in _ (by omega)
    have hnw : ((n : Int) + 1) = (n1 : Int) := by have := HN.out; omega
    have hnw2 : IntKind.i64.wrap (n1 : Int) = (n1 : Int) := IntWalk.i64_in _ (by omega)
    have hs1 := run_cut_l (P := Tryd.prog) arrde szde q 1 i (by omega)
    have hs2 := run_cut_lh (P := Tryd.prog) arrde szde q 1 k n1 (by have := HN.out; omega) (by omega) (by omega)
    have HK := Lib.hid hk
    clear hG1 hw1 ct0 ct5 ft0 ft5 cq0 fq0 hk
    go_still_tail 16, (by kernel_rfl)
    change wpList _ _ _ _ _ w1.drew
    refine wpList_copy_rows rfl (.tmp 30) (.tmp 41) 211 211 rfl 129 2 Tryd.underlying211 szde (some ⟨q, 1 + i * 2, none⟩) (some ⟨q, 1 + k * 2, none⟩) (129 - i) (129 - i) (n1 - k) (129 - k) rfl rfl
      q (1 + i * 2) L0.toArray 132 HG1.out M ?c2 (by omega) ?c3 ?c4 HM1.out ?_
    case c2 => rw [HML.out, HK.out, HN.out]; show (n - i) * 2 = min (n + 1 - (i + 1)) (129 - i) * 2; rw [Nat.min_eq_left (by omega)]; omega
    case c3 => exact fun _ => ⟨rfl, _, rfl, fun j v h => by rw [add_mk]; show w1.cell? ⟨q, 1 + k * 2 + j, none⟩ = some v; rw [cell_of_heap HG1.out, List.getElem?_toArray, HK.out]; exact HSRC.out j v h⟩
    case c4 => rw [HML.out, List.size_toArray, HL0l.out]; omega
    intro w2 HG2 HC2
    rw [List.toList_toArray, HL.out] at HG2
    have HT2 := Lib.hid (HT1.out.chg (w' := w2) ((Chg.refl _ w1).drew.trans HC2.out) hne)
    have HC12 := Lib.hid (HC1.out.trans (((Chg.refl _ w1).drew.trans HC2.out).mono fun b _ h => .inr h))
    clear hs1 hs2 dq0
    have eq0 : w2.cell? ⟨q, 0, none⟩ = some (.int .i64 n) := by
      rw [cell_of_heap HG2.out, List.getElem?_toArray, ← HL.out, splice_low _ _ _ 0 (by omega) (by rw [HL0l.out]; omega), HL0.out]
      rfl
    obtain ⟨u1, cu1⟩ : ∃ u, w2.cell? ⟨q, 1 + n * 2, none⟩ = some u := ⟨L[1 + n * 2]'(by rw [HLl.out]; omega), by rw [cell_of_heap HG2.out, List.getElem?_toArray]; exact List.getElem?_eq_getElem _⟩
    obtain ⟨u2, cu2⟩ : ∃ u, w2.cell? ⟨q, 1 + n * 2 + 1, none⟩ = some u := ⟨L[1 + n * 2 + 1]'(by rw [HLl.out]; omega), by rw [cell_of_heap HG2.out, List.getElem?_toArray]; exact List.getElem?_eq_getElem _⟩
    have fu1 : w2.frozen? ⟨q, 1 + n * 2, none⟩ = false := free_of_heap HG2.out _
    have fu2 : w2.frozen? ⟨q, 1 + n * 2 + 1, none⟩ = false := free_of_heap HG2.out _
    have et0 : w2.cell? ⟨t, 0, none⟩ = some (.int .i64 c) := cell_of_heap HT2.out 0
    have gt0 : w2.frozen? ⟨t, 0, none⟩ = false := free_of_heap HT2.out 0
    have lqr : q < w2.heap.size := lt_of_heap HG2.out
    have ltr : t < w2.heap.size := lt_of_heap HT2.out
    have hn3 : (n : Int) < 129 := by omega
    have hn4 : (0 : Int) ≤ n := by omega
    go_wp2
    go_region_with (go_at_call 108; refine (zde_any _).mono ?_; rintro x w4 ⟨rfl, hb4⟩; have dq := (hb4.cell (p := ⟨q, 0, none⟩) lqr).trans eq0; have du1 := (hb4.cell (p := ⟨q, 1 + n * 2, none⟩) lqr).trans cu1; have du2 := (hb4.cell (p := ⟨q, 1 + n * 2 + 1, none⟩) lqr).trans cu2; have gu1 := (hb4.frozen (p := ⟨q, 1 + n * 2, none⟩) lqr).trans fu1; have gu2 := (hb4.frozen (p := ⟨q, 1 + n * 2 + 1, none⟩) lqr).trans fu2; have dt0 := (hb4.cell (p := ⟨t, 0, none⟩) ltr).trans et0; have ht0 := (hb4.frozen (p := ⟨t, 0, none⟩) ltr).trans gt0; have HB4 : Hid (Below w2.heap.size w2 w4) := (by first | exact Lib.hid hb4 | exact Lib.hid ⟨hb4.os, hb4.tape, hb4.output, hb4.size, hb4.block⟩))
    all_goals go_wp2
    all_goals
      go_end0
      have k4 : Chg (fun b => b = t ∨ b = q) w w4 := by first | exact HC12.out.trans (Chg.of_below HB4.out) | exact HC12.out.trans ((Chg.refl _ w2).drew.trans (Chg.of_below HB4.out))
      refine ⟨rfl, ⟨_, HFIN.out _ ?_⟩, ⟨wrap64 (ver + 1), ?_⟩, ?_⟩
      · simp only [heap_setCell_ne _ _ _ _ _ hne', heap_setCell_at, heap_below HG2.out HB4.out, Option.map_some, updObj_cells, List.setIfInBounds_toArray]
      · unfold TreeW
        simp only [heap_setCell_ne _ _ _ _ _ hne, heap_setCell_at, show w4.heap[t]? = _ from heap_below HT2.out HB4.out, Option.map_some, updObj_cells]
        rfl
      · exact k4.trans (by repeat (first | exact Chg.refl _ _ | refine Chg.drew ?_ | refine Chg.setCell ?_ (by first | exact .inl (.inl rfl) | exact .inl (.inr rfl)) _))
  · have hni : n = i := by omega
    have hic : ((i : Int) < n) = False := by simp; omega
    have hM0 : M = [] := List.eq_nil_of_length_eq_zero (by rw [HML.out]; omega)
    have hLL : L = L0 := by rw [← HL.out, hM0, splice_nil]
    have hic2 : ((i : Int) < i) = False := by simp
    subst hni
    go_wp2
    obtain ⟨w2, hw2⟩ : ∃ w1, w1 = (w.setCell ⟨t, 5, none⟩ (.int .i64 (wrap64 (ver + 1)))).setCell ⟨q, 0, none⟩ (.int .i64 n) := ⟨_, rfl⟩
    rw [← hw2]
    have HG2 := Lib.hid (show w2.heap[q]? = some (.cells L.toArray 132 (0, 0)) by
      rw [hw2, heap_setCell_at, heap_setCell_ne _ _ _ _ _ hne', HQ.out.heap, hLL, HL0.out]
      simp [updObj_cells])
    have HT2 := Lib.hid (show TreeW G w2 t c fi la r (wrap64 (ver + 1)) by
      unfold TreeW
      rw [hw2, heap_setCell_ne _ _ _ _ _ hne, heap_setCell_at, show w.heap[t]? = _ from HT.out]
      rfl)
    have HC12 := Lib.hid (show Chg (fun b => b = t ∨ b = q) w w2 by rw [hw2]; exact ((Chg.refl _ _).setCell (.inl (.inl rfl)) _).setCell (.inl (.inr rfl)) _)
    clear hw2 ct0 ct5 ft0 ft5 cq0 fq0 hic hic2
    have eq0 : w2.cell? ⟨q, 0, none⟩ = some (.int .i64 n) := by
      rw [cell_of_heap HG2.out, List.getElem?_toArray, ← HL.out, splice_low _ _ _ 0 (by omega) (by rw [HL0l.out]; omega), HL0.out]
      rfl
    obtain ⟨u1, cu1⟩ : ∃ u, w2.cell? ⟨q, 1 + n * 2, none⟩ = some u := ⟨L[1 + n * 2]'(by rw [HLl.out]; omega), by rw [cell_of_heap HG2.out, List.getElem?_toArray]; exact List.getElem?_eq_getElem _⟩
    obtain ⟨u2, cu2⟩ : ∃ u, w2.cell? ⟨q, 1 + n * 2 + 1, none⟩ = some u := ⟨L[1 + n * 2 + 1]'(by rw [HLl.out]; omega), by rw [cell_of_heap HG2.out, List.getElem?_toArray]; exact List.getElem?_eq_getElem _⟩
    have fu1 : w2.frozen? ⟨q, 1 + n * 2, none⟩ = false := free_of_heap HG2.out _
    have fu2 : w2.frozen? ⟨q, 1 + n * 2 + 1, none⟩ = false := free_of_heap HG2.out _
    have et0 : w2.cell? ⟨t, 0, none⟩ = some (.int .i64 c) := cell_of_heap HT2.out 0
    have gt0 : w2.frozen? ⟨t, 0, none⟩ = false := free_of_heap HT2.out 0
    have lqr : q < w2.heap.size := lt_of_heap HG2.out
    have ltr : t < w2.heap.size := lt_of_heap HT2.out
    have hn3 : (n : Int) < 129 := by omega
    have hn4 : (0 : Int) ≤ n := by omega
    go_wp2
    go_region_with (go_at_call 108; refine (zde_any _).mono ?_; rintro x w4 ⟨rfl, hb4⟩; have dq := (hb4.cell (p := ⟨q, 0, none⟩) lqr).trans eq0; have du1 := (hb4.cell (p := ⟨q, 1 + n * 2, none⟩) lqr).trans cu1; have du2 := (hb4.cell (p := ⟨q, 1 + n * 2 + 1, none⟩) lqr).trans cu2; have gu1 := (hb4.frozen (p := ⟨q, 1 + n * 2, none⟩) lqr).trans fu1; have gu2 := (hb4.frozen (p := ⟨q, 1 + n * 2 + 1, none⟩) lqr).trans fu2; have dt0 := (hb4.cell (p := ⟨t, 0, none⟩) ltr).trans et0; have ht0 := (hb4.frozen (p := ⟨t, 0, none⟩) ltr).trans gt0; have HB4 : Hid (Below w2.heap.size w2 w4) := (by first | exact Lib.hid hb4 | exact Lib.hid ⟨hb4.os, hb4.tape, hb4.output, hb4.size, hb4.block⟩))
    all_goals go_wp2
    all_goals
      go_end0
      have k4 : Chg (fun b => b = t ∨ b = q) w w4 := by first | exact HC12.out.trans (Chg.of_below HB4.out) | exact HC12.out.trans ((Chg.refl _ w2).drew.trans (Chg.of_below HB4.out))
      refine ⟨rfl, ⟨_, HFIN.out _ ?_⟩, ⟨wrap64 (ver + 1), ?_⟩, ?_⟩
      · simp only [heap_setCell_ne _ _ _ _ _ hne', heap_setCell_at, heap_below HG2.out HB4.out, Option.map_some, updObj_cells, List.setIfInBounds_toArray]
      · unfold TreeW
        simp only [heap_setCell_ne _ _ _ _ _ hne, heap_setCell_at, show w4.heap[t]? = _ from heap_below HT2.out HB4.out, Option.map_some, updObj_cells]
        rfl
      · exact k4.trans (by repeat (first | exact Chg.refl _ _ | refine Chg.drew ?_ | refine Chg.setCell ?_ (by first | exact .inl (.inl rfl) | exact .inl (.inr rfl)) _))
end Go.Proofs.YtffgkocokkhahaaDoor

/- (*tree).underflow under a root: a page with too few entries takes one of a neighbour's, or becomes one page with it. PRINTED BY wip/tpl/gen_yun.py. -/
namespace Go.Proofs.YtffgkocokkhahaaDoor
open Go.RowKit
variable {G : Value}

theorem page_room {w w' : World} {b : Nat} {es : List XE} {rest : List Value} {nx pv : Value} (h : PageAt w b es rest nx pv) (hl : es.length ≤ 128)
    (hw : w'.heap[b]? = ((w.setCell ⟨b, 1 + es.length * 2, none⟩ (.slice none 0 0)).setCell ⟨b, 1 + es.length * 2 + 1, none⟩ (.slice none 0 0)).heap[b]?) : ∃ rest', PageAt w' b es rest' nx pv := by
  have hr := h.room
  obtain ⟨rr', g1, g2, g3⟩ := room_set (A := .int .i64 es.length :: flat XE.cells es) (rr := rest) (T := [nx, pv]) (o := 1 + es.length * 2) (.slice none 0 0) (.slice none 0 0) (by simp [flat_len]; omega) (by simp [flat_len]; omega) rfl rfl h.one
  refine ⟨rr', ?_, by rw [g1]; exact hr, g2⟩
  rw [hw, heap_setCell_at, heap_setCell_at, h.heap]
  simp only [Option.map_some, updObj_cells, List.setIfInBounds_toArray]
  have e : pgL XE.cells es rest [nx, pv] = (.int .i64 es.length :: flat XE.cells es) ++ (rest ++ [nx, pv]) := rfl
  rw [e, g3]
  rfl

set_option maxRecDepth 100000 in
set_option maxHeartbeats 1000000 in
theorem un_room_any (t q x b0 k : Nat) (bs : List Nat) (es : List XE) (sq xr : List Value) (nq0 pq : Value) (c : Int) (fi la r : Value) (ver : Int) (w : World) (lb : Nat) (ls : List XE) (sl : List Value) (nl pl : Value)
    (hq : PageAt w q es sq nq0 pq) (ht : TreeW G w t c fi la r ver) (hx : RootAt w x b0 bs xr) (hk : k ≤ bs.length) (hbs : bs.length ≤ 250) (hl : es.length = 63) (hsl : sibL (b0 :: bs) k = some lb) (hlp : PageAt w lb ls sl nl pl) (hlq : ¬ lb = q) (hll : 65 ≤ ls.length) (hl2 : ls.length ≤ 128) :
    Calls Tryd.prog 77 #[.pointer (some ⟨t, 0, none⟩), .pointer (some ⟨x, 0, none⟩), .pointer (some ⟨q, 0, none⟩), .int .i64 k] w
      (fun y w' => y = .returned (.tuple #[]) ∧ (∃ s, PageAt w' lb (ls.take (ls.length - 1)) s nl pl) ∧ (∃ s, PageAt w' q (ls.drop (ls.length - 1) ++ es) s nq0 pq) ∧ (∃ v, TreeW G w' t c fi la r v) ∧ Chg (fun b => b = t ∨ b = lb ∨ b = q) w w') := by
  have hqt := tag_ne hq.heap ht (by decide)
  have hxt := tag_ne hx.heap ht (by decide)
  have htq : ¬ t = q := fun h => hqt h.symm
  have hlt := tag_ne hlp.heap ht (by decide)
  obtain ⟨ht1, hc1⟩ := over_start ht
  have ct5 : w.cell? ⟨t, 5, none⟩ = some (.int .i64 ver) := cell_of_heap ht 5
  have ft5 : w.frozen? ⟨t, 5, none⟩ = false := free_of_heap ht 5
  have HT1 := Lib.hid ht1
  have HC1 := Lib.hid hc1
  have HQ1 := Lib.hid (hq.chg hc1 hqt)
  have HX1 := Lib.hid (hx.chg hc1 hxt)
  have cq0 : (w.setCell ⟨t, 5, none⟩ (.int .i64 (wrap64 (ver + 1)))).cell? ⟨q, 0, none⟩ = some (.int .i64 63) := by rw [HQ1.out.cell, pgL_count, hl]; rfl
  have HL1 := Lib.hid (hlp.chg hc1 hlt)
  obtain ⟨ln, hln⟩ : ∃ ln, ln = ls.length := ⟨_, rfl⟩
  have cl0 : (w.setCell ⟨t, 5, none⟩ (.int .i64 (wrap64 (ver + 1)))).cell? ⟨lb, 0, none⟩ = some (.int .i64 ln) := by rw [HL1.out.cell, hln]; rfl
  have hlc : ((128 : Int) ≤ (ln : Int) + 63) = True := by simp; omega
  have hlw : IntKind.i64.wrap ((ln : Int) + 63) = (ln : Int) + 63 := IntWalk.i64_in _ (by omega)
  have HLN := Lib.hid hln
  have HL := Lib.hid hl
  have hsib := fun w' (h : RootAt w' x b0 bs xr) => siblings_some x b0 bs xr k w' h hk (by omega)
  rw [hsl, show pgPtr (some lb) = .pointer (some ⟨lb, 0, none⟩) from rfl] at hsib
  obtain ⟨RV, hRV⟩ : ∃ RV, pgPtr (sibR (b0 :: bs) k) = RV := ⟨_, rfl⟩
  rw [hRV] at hsib
  have HS := Lib.hid hsib
  clear hsib hsl ht hq ht1 hc1 hl hx hlp hln hRV
  go_enter Tryd.func77, Tryd.ntmps77
  go_wp2_with (go_at_call 102; refine (HS.out _ HX1.out).mono ?_; rintro y w' ⟨rfl, rfl⟩)
  go_quiet (fail)
  obtain ⟨wa, hwa⟩ : ∃ wz, wz = (w.setCell ⟨t, 5, none⟩ (.int .i64 (wrap64 (ver + 1)))).drewN nq := ⟨_, rfl⟩
  rw [← hwa]
  replace cq0 : wa.cell? ⟨q, 0, none⟩ = some (.int .i64 63) := by rw [hwa]; exact cq0
  replace cl0 : wa.cell? ⟨lb, 0, none⟩ = some (.int .i64 ln) := by rw [hwa]; exact cl0
  have HCwa := Lib.hid (show Chg (fun b => b = t) w wa by rw [hwa]; exact HC1.out.drewN _)
  have HTwa := Lib.hid (show TreeW G wa t c fi la r (wrap64 (ver + 1)) by rw [hwa]; exact HT1.out)
  have HQwa := Lib.hid (show PageAt wa q es sq nq0 pq by rw [hwa]; exact ⟨HQ1.out.heap, HQ1.out.room, HQ1.out.one⟩)
  have HLwa := Lib.hid (show PageAt wa lb ls sl nl pl by rw [hwa]; exact ⟨HL1.out.heap, HL1.out.room, HL1.out.one⟩)
  clear hwa
  go_wp2_with (go_at_call 104; refine (mvR_any lb q 1 ls es _ _ _ _ _ _ _ HLwa.out HQwa.out hlq (by omega) (by rw [HL.out]; omega) (by omega)).mono ?_; rintro y w2 ⟨rfl, hp1, hp2, hc2⟩; have HT2 := Lib.hid (HTwa.out.chg hc2 (by rintro (h | h); exact hlt h.symm; exact htq h)))
  first | go_end0 | refine bodyPost_ret (results_none rfl _ _ _) rfl ?_
  exact ⟨rfl, hp1, hp2, ⟨_, HT2.out⟩, (HCwa.out.mono (T := fun b => b = t ∨ b = lb ∨ b = q) (fun k _ h => .inl h)).next hc2 (fun k _ h => .inr h)⟩

set_option maxRecDepth 100000 in
set_option maxHeartbeats 1000000 in
theorem un_none_room (t q x b0 k : Nat) (bs : List Nat) (es : List XE) (sq xr : List Value) (nq0 pq : Value) (c : Int) (fi la r : Value) (ver : Int) (w : World) (rb : Nat) (rs : List XE) (sr : List Value) (nr pr : Value)
    (hq : PageAt w q es sq nq0 pq) (ht : TreeW G w t c fi la r ver) (hx : RootAt w x b0 bs xr) (hk : k ≤ bs.length) (hbs : bs.length ≤ 250) (hl : es.length = 63) (hsl : sibL (b0 :: bs) k = none) (hsr : sibR (b0 :: bs) k = some rb) (hrp : PageAt w rb rs sr nr pr) (hrq : ¬ rb = q) (hrl : 65 ≤ rs.length) (hr2 : rs.length ≤ 128) :
    Calls Tryd.prog 77 #[.pointer (some ⟨t, 0, none⟩), .pointer (some ⟨x, 0, none⟩), .pointer (some ⟨q, 0, none⟩), .int .i64 k] w
      (fun y w' => y = .returned (.tuple #[]) ∧ (∃ s, PageAt w' q (es ++ rs.take 1) s nq0 pq) ∧ (∃ s, PageAt w' rb (rs.drop 1) s nr pr) ∧ (∃ v, TreeW G w' t c fi la r v) ∧ Chg (fun b => b = t ∨ b = q ∨ b = rb) w w') := by
  have hqt := tag_ne hq.heap ht (by decide)
  have hxt := tag_ne hx.heap ht (by decide)
  have htq : ¬ t = q := fun h => hqt h.symm
  have hrt := tag_ne hrp.heap ht (by decide)
  obtain ⟨ht1, hc1⟩ := over_start ht
  have ct5 : w.cell? ⟨t, 5, none⟩ = some (.int .i64 ver) := cell_of_heap ht 5
  have ft5 : w.frozen? ⟨t, 5, none⟩ = false := free_of_heap ht 5
  have HT1 := Lib.hid ht1
  have HC1 := Lib.hid hc1
  have HQ1 := Lib.hid (hq.chg hc1 hqt)
  have HX1 := Lib.hid (hx.chg hc1 hxt)
  have cq0 : (w.setCell ⟨t, 5, none⟩ (.int .i64 (wrap64 (ver + 1)))).cell? ⟨q, 0, none⟩ = some (.int .i64 63) := by rw [HQ1.out.cell, pgL_count, hl]; rfl
  have HR1 := Lib.hid (hrp.chg hc1 hrt)
  obtain ⟨rn, hrn⟩ : ∃ rn, rn = rs.length := ⟨_, rfl⟩
  have cr0 : (w.setCell ⟨t, 5, none⟩ (.int .i64 (wrap64 (ver + 1)))).cell? ⟨rb, 0, none⟩ = some (.int .i64 rn) := by rw [HR1.out.cell, hrn]; rfl
  have hrc : ((128 : Int) ≤ 63 + (rn : Int)) = True := by simp; omega
  have hrw : IntKind.i64.wrap (63 + (rn : Int)) = 63 + (rn : Int) := IntWalk.i64_in _ (by omega)
  have HRN := Lib.hid hrn
  have HL := Lib.hid hl
  have hsib := fun w' (h : RootAt w' x b0 bs xr) => siblings_some x b0 bs xr k w' h hk (by omega)
  rw [hsl, show pgPtr none = .pointer none from rfl] at hsib
  rw [hsr, show pgPtr (some rb) = .pointer (some ⟨rb, 0, none⟩) from rfl] at hsib
  have HS := Lib.hid hsib
  clear hsib hsl ht hq ht1 hc1 hl hx hrp hsr hrn
  obtain ⟨m, hm⟩ : ∃ m, m = rn - 1 := ⟨_, rfl⟩
  have hmb : (m : Int) < 129 := by have := HRN.out; omega
  have hmb2 : (0 : Int) ≤ m := by omega
  have HM : Hid ((rs.drop 1).length = m) := Lib.hid (by rw [List.length_drop, hm, HRN.out])
  have HM2 : Hid (m ≤ 128) := Lib.hid (by have := HRN.out; omega)
  clear hm
  go_enter Tryd.func77, Tryd.ntmps77
  go_wp2_with (go_at_call 102; refine (HS.out _ HX1.out).mono ?_; rintro y w' ⟨rfl, rfl⟩)
  go_quiet (fail)
  obtain ⟨wa, hwa⟩ : ∃ wz, wz = (w.setCell ⟨t, 5, none⟩ (.int .i64 (wrap64 (ver + 1)))).drewN nq := ⟨_, rfl⟩
  rw [← hwa]
  replace cq0 : wa.cell? ⟨q, 0, none⟩ = some (.int .i64 63) := by rw [hwa]; exact cq0
  replace cr0 : wa.cell? ⟨rb, 0, none⟩ = some (.int .i64 rn) := by rw [hwa]; exact cr0
  have HCwa := Lib.hid (show Chg (fun b => b = t) w wa by rw [hwa]; exact HC1.out.drewN _)
  have HTwa := Lib.hid (show TreeW G wa t c fi la r (wrap64 (ver + 1)) by rw [hwa]; exact HT1.out)
  have HQwa := Lib.hid (show PageAt wa q es sq nq0 pq by rw [hwa]; exact ⟨HQ1.out.heap, HQ1.out.room, HQ1.out.one⟩)
  have HRwa := Lib.hid (show PageAt wa rb rs sr nr pr by rw [hwa]; exact ⟨HR1.out.heap, HR1.out.room, HR1.out.one⟩)
  clear hwa
  go_wp2_with fail
  go_quiet (fail)
  obtain ⟨wb, hwb⟩ : ∃ wz, wz = wa.drewN nq := ⟨_, rfl⟩
  rw [← hwb]
  replace cq0 : wb.cell? ⟨q, 0, none⟩ = some (.int .i64 63) := by rw [hwb]; exact cq0
  replace cr0 : wb.cell? ⟨rb, 0, none⟩ = some (.int .i64 rn) := by rw [hwb]; exact cr0
  have HCwb := Lib.hid (show Chg (fun b => b = t) w wb by rw [hwb]; exact HCwa.out.drewN _)
  have HTwb := Lib.hid (show TreeW G wb t c fi la r (wrap64 (ver + 1)) by rw [hwb]; exact HTwa.out)
  have HQwb := Lib.hid (show PageAt wb q es sq nq0 pq by rw [hwb]; exact ⟨HQwa.out.heap, HQ1.out.room, HQ1.out.one⟩)
  have HRwb := Lib.hid (show PageAt wb rb rs sr nr pr by rw [hwb]; exact ⟨HRwa.out.heap, HR1.out.room, HR1.out.one⟩)
  clear hwb
  go_wp2_with (go_at_call 103; refine (mvL_any q rb 1 es rs _ _ _ _ _ _ _ HQwb.out HRwb.out (fun h => hrq h.symm) (by omega) (by rw [HL.out]; omega) (by rw [HL.out]; omega) (by omega)).mono ?_; rintro y w2 ⟨rfl, hp1, ⟨s2, hp2⟩, hc2⟩; have HT2 := Lib.hid (HTwb.out.chg hc2 (by rintro (h | h); exact htq h; exact hrt h.symm)); have HP1 := Lib.hid hp1; have HP2 := Lib.hid hp2; have HC2 := Lib.hid hc2; have rc : w2.cell? ⟨rb, 0, none⟩ = some (.int .i64 m) := (by rw [hp2.cell, pgL_count, HM.out]); have hlen2 := page_len hp2; obtain ⟨u1, cu1⟩ : ∃ u, w2.cell? ⟨rb, 1 + m * 2, none⟩ = some u := ⟨_, (hp2.cell _).trans (List.getElem?_eq_getElem (by rw [hlen2]; omega))⟩; obtain ⟨u2, cu2⟩ : ∃ u, w2.cell? ⟨rb, 1 + m * 2 + 1, none⟩ = some u := ⟨_, (hp2.cell _).trans (List.getElem?_eq_getElem (by rw [hlen2]; omega))⟩; have fu1 := hp2.free (1 + m * 2); have fu2 := hp2.free (1 + m * 2 + 1); have lrb := hp2.lt; clear hp1 hp2 hc2 hlen2)
  go_region_with (go_at_call 108; refine (zde_any _).mono ?_; rintro x w4 ⟨rfl, hb4⟩; have drc := (hb4.cell (p := ⟨rb, 0, none⟩) lrb).trans rc; have du1 := (hb4.cell (p := ⟨rb, 1 + m * 2, none⟩) lrb).trans cu1; have du2 := (hb4.cell (p := ⟨rb, 1 + m * 2 + 1, none⟩) lrb).trans cu2; have gu1 := (hb4.frozen (p := ⟨rb, 1 + m * 2, none⟩) lrb).trans fu1; have gu2 := (hb4.frozen (p := ⟨rb, 1 + m * 2 + 1, none⟩) lrb).trans fu2; have HB4 : Hid (Below w2.heap.size w2 w4) := (by first | exact Lib.hid hb4 | exact Lib.hid ⟨hb4.os, hb4.tape, hb4.output, hb4.size, hb4.block⟩))
  all_goals go_wp2
  all_goals
    go_end0
    have k2 : Chg (fun b => b = t ∨ b = q ∨ b = rb) w w2 := (HCwb.out.mono (T := fun b => b = t ∨ b = q ∨ b = rb) (fun k _ h => .inl h)).next HC2.out (fun k _ h => .inr h)
    have k4 : Chg (fun b => b = rb) w2 (((w4.setCell ⟨rb, 1 + m * 2, none⟩ (.slice none 0 0)).setCell ⟨rb, 1 + m * 2 + 1, none⟩ (.slice none 0 0))) := (Chg.setCell (Chg.setCell (Chg.of_below (S := fun b => b = rb) HB4.out) (p := ⟨rb, _, none⟩) (.inl rfl) _) (p := ⟨rb, _, none⟩) (.inl rfl) _)
    obtain ⟨s1, hp1⟩ := HP1.out
    refine ⟨rfl, ⟨s1, (hp1.chg k4 (fun h : q = rb => hrq h.symm))⟩, page_room (HP2.out.below HB4.out) (by rw [HM.out]; exact HM2.out) (by rw [HM.out]), ⟨_, HT2.out.chg k4 (fun h : t = rb => hrt h.symm)⟩, k2.next k4 (fun b _ h => .inr (.inr h))⟩

set_option maxRecDepth 100000 in
set_option maxHeartbeats 1000000 in
theorem un_low_room (t q x b0 k : Nat) (bs : List Nat) (es : List XE) (sq xr : List Value) (nq0 pq : Value) (c : Int) (fi la r : Value) (ver : Int) (w : World) (lb : Nat) (ls : List XE) (sl : List Value) (nl pl : Value) (rb : Nat) (rs : List XE) (sr : List Value) (nr pr : Value)
    (hq : PageAt w q es sq nq0 pq) (ht : TreeW G w t c fi la r ver) (hx : RootAt w x b0 bs xr) (hk : k ≤ bs.length) (hbs : bs.length ≤ 250) (hl : es.length = 63) (hsl : sibL (b0 :: bs) k = some lb) (hlp : PageAt w lb ls sl nl pl) (hll : ls.length = 64) (hsr : sibR (b0 :: bs) k = some rb) (hrp : PageAt w rb rs sr nr pr) (hrq : ¬ rb = q) (hrl : 65 ≤ rs.length) (hr2 : rs.length ≤ 128) :
    Calls Tryd.prog 77 #[.pointer (some ⟨t, 0, none⟩), .pointer (some ⟨x, 0, none⟩), .pointer (some ⟨q, 0, none⟩), .int .i64 k] w
      (fun y w' => y = .returned (.tuple #[]) ∧ (∃ s, PageAt w' q (es ++ rs.take 1) s nq0 pq) ∧ (∃ s, PageAt w' rb (rs.drop 1) s nr pr) ∧ (∃ v, TreeW G w' t c fi la r v) ∧ Chg (fun b => b = t ∨ b = q ∨ b = rb) w w') := by
  have hqt := tag_ne hq.heap ht (by decide)
  have hxt := tag_ne hx.heap ht (by decide)
  have htq : ¬ t = q := fun h => hqt h.symm
  have hlt := tag_ne hlp.heap ht (by decide)
  have hrt := tag_ne hrp.heap ht (by decide)
  obtain ⟨ht1, hc1⟩ := over_start ht
  have ct5 : w.cell? ⟨t, 5, none⟩ = some (.int .i64 ver) := cell_of_heap ht 5
  have ft5 : w.frozen? ⟨t, 5, none⟩ = false := free_of_heap ht 5
  have HT1 := Lib.hid ht1
  have HC1 := Lib.hid hc1
  have HQ1 := Lib.hid (hq.chg hc1 hqt)
  have HX1 := Lib.hid (hx.chg hc1 hxt)
  have cq0 : (w.setCell ⟨t, 5, none⟩ (.int .i64 (wrap64 (ver + 1)))).cell? ⟨q, 0, none⟩ = some (.int .i64 63) := by rw [HQ1.out.cell, pgL_count, hl]; rfl
  have HL1 := Lib.hid (hlp.chg hc1 hlt)
  obtain ⟨ln, hln⟩ : ∃ ln, ln = ls.length := ⟨_, rfl⟩
  have cl0 : (w.setCell ⟨t, 5, none⟩ (.int .i64 (wrap64 (ver + 1)))).cell? ⟨lb, 0, none⟩ = some (.int .i64 ln) := by rw [HL1.out.cell, hln]; rfl
  have hlc : ((128 : Int) ≤ (ln : Int) + 63) = False := by simp; omega
  have hlw : IntKind.i64.wrap ((ln : Int) + 63) = (ln : Int) + 63 := IntWalk.i64_in _ (by omega)
  have HLN := Lib.hid hln
  have HR1 := Lib.hid (hrp.chg hc1 hrt)
  obtain ⟨rn, hrn⟩ : ∃ rn, rn = rs.length := ⟨_, rfl⟩
  have cr0 : (w.setCell ⟨t, 5, none⟩ (.int .i64 (wrap64 (ver + 1)))).cell? ⟨rb, 0, none⟩ = some (.int .i64 rn) := by rw [HR1.out.cell, hrn]; rfl
  have hrc : ((128 : Int) ≤ 63 + (rn : Int)) = True := by simp; omega
  have hrw : IntKind.i64.wrap (63 + (rn : Int)) = 63 + (rn : Int) := IntWalk.i64_in _ (by omega)
  have HRN := Lib.hid hrn
  have HL := Lib.hid hl
  have hsib := fun w' (h : RootAt w' x b0 bs xr) => siblings_some x b0 bs xr k w' h hk (by omega)
  rw [hsl, show pgPtr (some lb) = .pointer (some ⟨lb, 0, none⟩) from rfl] at hsib
  rw [hsr, show pgPtr (some rb) = .pointer (some ⟨rb, 0, none⟩) from rfl] at hsib
  have HS := Lib.hid hsib
  clear hsib hsl ht hq ht1 hc1 hl hx hlp hln hrp hsr hrn
  obtain ⟨m, hm⟩ : ∃ m, m = rn - 1 := ⟨_, rfl⟩
  have hmb : (m : Int) < 129 := by have := HRN.out; omega
  have hmb2 : (0 : Int) ≤ m := by omega
  have HM : Hid ((rs.drop 1).length = m) := Lib.hid (by rw [List.length_drop, hm, HRN.out])
  have HM2 : Hid (m ≤ 128) := Lib.hid (by have := HRN.out; omega)
  clear hm
  go_enter Tryd.func77, Tryd.ntmps77
  go_wp2_with (go_at_call 102; refine (HS.out _ HX1.out).mono ?_; rintro y w' ⟨rfl, rfl⟩)
  go_quiet (fail)
  obtain ⟨wa, hwa⟩ : ∃ wz, wz = (w.setCell ⟨t, 5, none⟩ (.int .i64 (wrap64 (ver + 1)))).drewN nq := ⟨_, rfl⟩
  rw [← hwa]
  replace cq0 : wa.cell? ⟨q, 0, none⟩ = some (.int .i64 63) := by rw [hwa]; exact cq0
  replace cl0 : wa.cell? ⟨lb, 0, none⟩ = some (.int .i64 ln) := by rw [hwa]; exact cl0
  replace cr0 : wa.cell? ⟨rb, 0, none⟩ = some (.int .i64 rn) := by rw [hwa]; exact cr0
  have HCwa := Lib.hid (show Chg (fun b => b = t) w wa by rw [hwa]; exact HC1.out.drewN _)
  have HTwa := Lib.hid (show TreeW G wa t c fi la r (wrap64 (ver + 1)) by rw [hwa]; exact HT1.out)
  have HQwa := Lib.hid (show PageAt wa q es sq nq0 pq by rw [hwa]; exact ⟨HQ1.out.heap, HQ1.out.room, HQ1.out.one⟩)
  have HLwa := Lib.hid (show PageAt wa lb ls sl nl pl by rw [hwa]; exact ⟨HL1.out.heap, HL1.out.room, HL1.out.one⟩)
  have HRwa := Lib.hid (show PageAt wa rb rs sr nr pr by rw [hwa]; exact ⟨HR1.out.heap, HR1.out.room, HR1.out.one⟩)
  clear hwa
  go_wp2_with fail
  go_quiet (fail)
  obtain ⟨wb, hwb⟩ : ∃ wz, wz = wa.drewN nq := ⟨_, rfl⟩
  rw [← hwb]
  replace cq0 : wb.cell? ⟨q, 0, none⟩ = some (.int .i64 63) := by rw [hwb]; exact cq0
  replace cl0 : wb.cell? ⟨lb, 0, none⟩ = some (.int .i64 ln) := by rw [hwb]; exact cl0
  replace cr0 : wb.cell? ⟨rb, 0, none⟩ = some (.int .i64 rn) := by rw [hwb]; exact cr0
  have HCwb := Lib.hid (show Chg (fun b => b = t) w wb by rw [hwb]; exact HCwa.out.drewN _)
  have HTwb := Lib.hid (show TreeW G wb t c fi la r (wrap64 (ver + 1)) by rw [hwb]; exact HTwa.out)
  have HQwb := Lib.hid (show PageAt wb q es sq nq0 pq by rw [hwb]; exact ⟨HQwa.out.heap, HQ1.out.room, HQ1.out.one⟩)
  have HLwb := Lib.hid (show PageAt wb lb ls sl nl pl by rw [hwb]; exact ⟨HLwa.out.heap, HL1.out.room, HL1.out.one⟩)
  have HRwb := Lib.hid (show PageAt wb rb rs sr nr pr by rw [hwb]; exact ⟨HRwa.out.heap, HR1.out.room, HR1.out.one⟩)
  clear hwb
  go_wp2_with (go_at_call 103; refine (mvL_any q rb 1 es rs _ _ _ _ _ _ _ HQwb.out HRwb.out (fun h => hrq h.symm) (by omega) (by rw [HL.out]; omega) (by rw [HL.out]; omega) (by omega)).mono ?_; rintro y w2 ⟨rfl, hp1, ⟨s2, hp2⟩, hc2⟩; have HT2 := Lib.hid (HTwb.out.chg hc2 (by rintro (h | h); exact htq h; exact hrt h.symm)); have HP1 := Lib.hid hp1; have HP2 := Lib.hid hp2; have HC2 := Lib.hid hc2; have rc : w2.cell? ⟨rb, 0, none⟩ = some (.int .i64 m) := (by rw [hp2.cell, pgL_count, HM.out]); have hlen2 := page_len hp2; obtain ⟨u1, cu1⟩ : ∃ u, w2.cell? ⟨rb, 1 + m * 2, none⟩ = some u := ⟨_, (hp2.cell _).trans (List.getElem?_eq_getElem (by rw [hlen2]; omega))⟩; obtain ⟨u2, cu2⟩ : ∃ u, w2.cell? ⟨rb, 1 + m * 2 + 1, none⟩ = some u := ⟨_, (hp2.cell _).trans (List.getElem?_eq_getElem (by rw [hlen2]; omega))⟩; have fu1 := hp2.free (1 + m * 2); have fu2 := hp2.free (1 + m * 2 + 1); have lrb := hp2.lt; clear hp1 hp2 hc2 hlen2)
  go_region_with (go_at_call 108; refine (zde_any _).mono ?_; rintro x w4 ⟨rfl, hb4⟩; have drc := (hb4.cell (p := ⟨rb, 0, none⟩) lrb).trans rc; have du1 := (hb4.cell (p := ⟨rb, 1 + m * 2, none⟩) lrb).trans cu1; have du2 := (hb4.cell (p := ⟨rb, 1 + m * 2 + 1, none⟩) lrb).trans cu2; have gu1 := (hb4.frozen (p := ⟨rb, 1 + m * 2, none⟩) lrb).trans fu1; have gu2 := (hb4.frozen (p := ⟨rb, 1 + m * 2 + 1, none⟩) lrb).trans fu2; have HB4 : Hid (Below w2.heap.size w2 w4) := (by first | exact Lib.hid hb4 | exact Lib.hid ⟨hb4.os, hb4.tape, hb4.output, hb4.size, hb4.block⟩))
  all_goals go_wp2
  all_goals
    go_end0
    have k2 : Chg (fun b => b = t ∨ b = q ∨ b = rb) w w2 := (HCwb.out.mono (T := fun b => b = t ∨ b = q ∨ b = rb) (fun k _ h => .inl h)).next HC2.out (fun k _ h => .inr h)
    have k4 : Chg (fun b => b = rb) w2 (((w4.setCell ⟨rb, 1 + m * 2, none⟩ (.slice none 0 0)).setCell ⟨rb, 1 + m * 2 + 1, none⟩ (.slice none 0 0))) := (Chg.setCell (Chg.setCell (Chg.of_below (S := fun b => b = rb) HB4.out) (p := ⟨rb, _, none⟩) (.inl rfl) _) (p := ⟨rb, _, none⟩) (.inl rfl) _)
    obtain ⟨s1, hp1⟩ := HP1.out
    refine ⟨rfl, ⟨s1, (hp1.chg k4 (fun h : q = rb => hrq h.symm))⟩, page_room (HP2.out.below HB4.out) (by rw [HM.out]; exact HM2.out) (by rw [HM.out]), ⟨_, HT2.out.chg k4 (fun h : t = rb => hrt h.symm)⟩, k2.next k4 (fun b _ h => .inr (.inr h))⟩

set_option maxRecDepth 100000 in
set_option maxHeartbeats 1000000 in
theorem un_low_none (t q x b0 k : Nat) (bs : List Nat) (es : List XE) (sq xr : List Value) (nq0 pq : Value) (c : Int) (fi la r : Value) (ver : Int) (w : World) (lb : Nat) (ls : List XE) (sl : List Value) (nl pl : Value) (Q : World → Prop) (j : Nat)
    (hq : PageAt w q es sq nq0 pq) (ht : TreeW G w t c fi la r ver) (hx : RootAt w x b0 bs xr) (hk : k ≤ bs.length) (hbs : bs.length ≤ 250) (hl : es.length = 63) (hsl : sibL (b0 :: bs) k = some lb) (hlp : PageAt w lb ls sl nl pl) (hll : ls.length = 64) (hsr : sibR (b0 :: bs) k = none) (hkj : k = j + 1) (HCAT : Hid (∀ w1 v, Chg (fun b => b = t) w w1 → TreeW G w1 t c fi la r v → Calls Tryd.prog 110 #[.pointer (some ⟨t, 0, none⟩), .pointer (some ⟨x, 0, none⟩), .pointer (some ⟨lb, 0, none⟩), .pointer (some ⟨q, 0, none⟩), .int .i64 j] w1 (fun y w' => y = .returned (.tuple #[]) ∧ Q w'))) :
    Calls Tryd.prog 77 #[.pointer (some ⟨t, 0, none⟩), .pointer (some ⟨x, 0, none⟩), .pointer (some ⟨q, 0, none⟩), .int .i64 k] w
      (fun y w' => y = .returned (.tuple #[]) ∧ Q w') := by
  have hqt := tag_ne hq.heap ht (by decide)
  have hxt := tag_ne hx.heap ht (by decide)
  have htq : ¬ t = q := fun h => hqt h.symm
  have hlt := tag_ne hlp.heap ht (by decide)
  obtain ⟨ht1, hc1⟩ := over_start ht
  have ct5 : w.cell? ⟨t, 5, none⟩ = some (.int .i64 ver) := cell_of_heap ht 5
  have ft5 : w.frozen? ⟨t, 5, none⟩ = false := free_of_heap ht 5
  have HT1 := Lib.hid ht1
  have HC1 := Lib.hid hc1
  have HQ1 := Lib.hid (hq.chg hc1 hqt)
  have HX1 := Lib.hid (hx.chg hc1 hxt)
  have cq0 : (w.setCell ⟨t, 5, none⟩ (.int .i64 (wrap64 (ver + 1)))).cell? ⟨q, 0, none⟩ = some (.int .i64 63) := by rw [HQ1.out.cell, pgL_count, hl]; rfl
  have HL1 := Lib.hid (hlp.chg hc1 hlt)
  obtain ⟨ln, hln⟩ : ∃ ln, ln = ls.length := ⟨_, rfl⟩
  have cl0 : (w.setCell ⟨t, 5, none⟩ (.int .i64 (wrap64 (ver + 1)))).cell? ⟨lb, 0, none⟩ = some (.int .i64 ln) := by rw [HL1.out.cell, hln]; rfl
  have hlc : ((128 : Int) ≤ (ln : Int) + 63) = False := by simp; omega
  have hlw : IntKind.i64.wrap ((ln : Int) + 63) = (ln : Int) + 63 := IntWalk.i64_in _ (by omega)
  have HLN := Lib.hid hln
  have HL := Lib.hid hl
  have hsib := fun w' (h : RootAt w' x b0 bs xr) => siblings_some x b0 bs xr k w' h hk (by omega)
  rw [hsl, show pgPtr (some lb) = .pointer (some ⟨lb, 0, none⟩) from rfl] at hsib
  rw [hsr, show pgPtr none = .pointer none from rfl] at hsib
  have HS := Lib.hid hsib
  clear hsib hsl ht hq ht1 hc1 hl hx hlp hln hsr
  have hkw : (k : Int) - 1 = (j : Int) := by omega
  clear hkj
  go_enter Tryd.func77, Tryd.ntmps77
  go_wp2_with (go_at_call 102; refine (HS.out _ HX1.out).mono ?_; rintro y w' ⟨rfl, rfl⟩)
  go_quiet (fail)
  obtain ⟨wa, hwa⟩ : ∃ wz, wz = (w.setCell ⟨t, 5, none⟩ (.int .i64 (wrap64 (ver + 1)))).drewN nq := ⟨_, rfl⟩
  rw [← hwa]
  replace cq0 : wa.cell? ⟨q, 0, none⟩ = some (.int .i64 63) := by rw [hwa]; exact cq0
  replace cl0 : wa.cell? ⟨lb, 0, none⟩ = some (.int .i64 ln) := by rw [hwa]; exact cl0
  have HCwa := Lib.hid (show Chg (fun b => b = t) w wa by rw [hwa]; exact HC1.out.drewN _)
  have HTwa := Lib.hid (show TreeW G wa t c fi la r (wrap64 (ver + 1)) by rw [hwa]; exact HT1.out)
  have HQwa := Lib.hid (show PageAt wa q es sq nq0 pq by rw [hwa]; exact ⟨HQ1.out.heap, HQ1.out.room, HQ1.out.one⟩)
  have HLwa := Lib.hid (show PageAt wa lb ls sl nl pl by rw [hwa]; exact ⟨HL1.out.heap, HL1.out.room, HL1.out.one⟩)
  clear hwa
  go_wp2_with fail
  go_quiet (fail)
  obtain ⟨wb, hwb⟩ : ∃ wz, wz = wa.drewN nq := ⟨_, rfl⟩
  rw [← hwb]
  replace cq0 : wb.cell? ⟨q, 0, none⟩ = some (.int .i64 63) := by rw [hwb]; exact cq0
  replace cl0 : wb.cell? ⟨lb, 0, none⟩ = some (.int .i64 ln) := by rw [hwb]; exact cl0
  have HCwb := Lib.hid (show Chg (fun b => b = t) w wb by rw [hwb]; exact HCwa.out.drewN _)
  have HTwb := Lib.hid (show TreeW G wb t c fi la r (wrap64 (ver + 1)) by rw [hwb]; exact HTwa.out)
  have HQwb := Lib.hid (show PageAt wb q es sq nq0 pq by rw [hwb]; exact ⟨HQwa.out.heap, HQ1.out.room, HQ1.out.one⟩)
  have HLwb := Lib.hid (show PageAt wb lb ls sl nl pl by rw [hwb]; exact ⟨HLwa.out.heap, HL1.out.room, HL1.out.one⟩)
  clear hwb
  go_wp2_with (go_at_call 110; refine (HCAT.out _ _ HCwb.out HTwb.out).mono ?_; rintro y w2 ⟨rfl, hQ⟩)
  first | go_end0 | refine bodyPost_ret (results_none rfl _ _ _) rfl ?_
  exact ⟨rfl, hQ⟩

set_option maxRecDepth 100000 in
set_option maxHeartbeats 1000000 in
theorem un_low_low (t q x b0 k : Nat) (bs : List Nat) (es : List XE) (sq xr : List Value) (nq0 pq : Value) (c : Int) (fi la r : Value) (ver : Int) (w : World) (lb : Nat) (ls : List XE) (sl : List Value) (nl pl : Value) (rb : Nat) (rs : List XE) (sr : List Value) (nr pr : Value) (Q : World → Prop) (j : Nat)
    (hq : PageAt w q es sq nq0 pq) (ht : TreeW G w t c fi la r ver) (hx : RootAt w x b0 bs xr) (hk : k ≤ bs.length) (hbs : bs.length ≤ 250) (hl : es.length = 63) (hsl : sibL (b0 :: bs) k = some lb) (hlp : PageAt w lb ls sl nl pl) (hll : ls.length = 64) (hsr : sibR (b0 :: bs) k = some rb) (hrp : PageAt w rb rs sr nr pr) (hrl : rs.length = 64) (hkj : k = j + 1) (HCAT : Hid (∀ w1 v, Chg (fun b => b = t) w w1 → TreeW G w1 t c fi la r v → Calls Tryd.prog 110 #[.pointer (some ⟨t, 0, none⟩), .pointer (some ⟨x, 0, none⟩), .pointer (some ⟨lb, 0, none⟩), .pointer (some ⟨q, 0, none⟩), .int .i64 j] w1 (fun y w' => y = .returned (.tuple #[]) ∧ Q w'))) :
    Calls Tryd.prog 77 #[.pointer (some ⟨t, 0, none⟩), .pointer (some ⟨x, 0, none⟩), .pointer (some ⟨q, 0, none⟩), .int .i64 k] w
      (fun y w' => y = .returned (.tuple #[]) ∧ Q w') := by
  have hqt := tag_ne hq.heap ht (by decide)
  have hxt := tag_ne hx.heap ht (by decide)
  have htq : ¬ t = q := fun h => hqt h.symm
  have hlt := tag_ne hlp.heap ht (by decide)
  have hrt := tag_ne hrp.heap ht (by decide)
  obtain ⟨ht1, hc1⟩ := over_start ht
  have ct5 : w.cell? ⟨t, 5, none⟩ = some (.int .i64 ver) := cell_of_heap ht 5
  have ft5 : w.frozen? ⟨t, 5, none⟩ = false := free_of_heap ht 5
  have HT1 := Lib.hid ht1
  have HC1 := Lib.hid hc1
  have HQ1 := Lib.hid (hq.chg hc1 hqt)
  have HX1 := Lib.hid (hx.chg hc1 hxt)
  have cq0 : (w.setCell ⟨t, 5, none⟩ (.int .i64 (wrap64 (ver + 1)))).cell? ⟨q, 0, none⟩ = some (.int .i64 63) := by rw [HQ1.out.cell, pgL_count, hl]; rfl
  have HL1 := Lib.hid (hlp.chg hc1 hlt)
  obtain ⟨ln, hln⟩ : ∃ ln, ln = ls.length := ⟨_, rfl⟩
  have cl0 : (w.setCell ⟨t, 5, none⟩ (.int .i64 (wrap64 (ver + 1)))).cell? ⟨lb, 0, none⟩ = some (.int .i64 ln) := by rw [HL1.out.cell, hln]; rfl
  have hlc : ((128 : Int) ≤ (ln : Int) + 63) = False := by simp; omega
  have hlw : IntKind.i64.wrap ((ln : Int) + 63) = (ln : Int) + 63 := IntWalk.i64_in _ (by omega)
  have HLN := Lib.hid hln
  have HR1 := Lib.hid (hrp.chg hc1 hrt)
  obtain ⟨rn, hrn⟩ : ∃ rn, rn = rs.length := ⟨_, rfl⟩
  have cr0 : (w.setCell ⟨t, 5, none⟩ (.int .i64 (wrap64 (ver + 1)))).cell? ⟨rb, 0, none⟩ = some (.int .i64 rn) := by rw [HR1.out.cell, hrn]; rfl
  have hrc : ((128 : Int) ≤ 63 + (rn : Int)) = False := by simp; omega
  have hrw : IntKind.i64.wrap (63 + (rn : Int)) = 63 + (rn : Int) := IntWalk.i64_in _ (by omega)
  have HRN := Lib.hid hrn
  have HL := Lib.hid hl
  have hsib := fun w' (h : RootAt w' x b0 bs xr) => siblings_some x b0 bs xr k w' h hk (by omega)
  rw [hsl, show pgPtr (some lb) = .pointer (some ⟨lb, 0, none⟩) from rfl] at hsib
  rw [hsr, show pgPtr (some rb) = .pointer (some ⟨rb, 0, none⟩) from rfl] at hsib
  have HS := Lib.hid hsib
  clear hsib hsl ht hq ht1 hc1 hl hx hlp hln hrp hsr hrn
  have hkw : (k : Int) - 1 = (j : Int) := by omega
  clear hkj
  go_enter Tryd.func77, Tryd.ntmps77
  go_wp2_with (go_at_call 102; refine (HS.out _ HX1.out).mono ?_; rintro y w' ⟨rfl, rfl⟩)
  go_quiet (fail)
  obtain ⟨wa, hwa⟩ : ∃ wz, wz = (w.setCell ⟨t, 5, none⟩ (.int .i64 (wrap64 (ver + 1)))).drewN nq := ⟨_, rfl⟩
  rw [← hwa]
  replace cq0 : wa.cell? ⟨q, 0, none⟩ = some (.int .i64 63) := by rw [hwa]; exact cq0
  replace cl0 : wa.cell? ⟨lb, 0, none⟩ = some (.int .i64 ln) := by rw [hwa]; exact cl0
  replace cr0 : wa.cell? ⟨rb, 0, none⟩ = some (.int .i64 rn) := by rw [hwa]; exact cr0
  have HCwa := Lib.hid (show Chg (fun b => b = t) w wa by rw [hwa]; exact HC1.out.drewN _)
  have HTwa := Lib.hid (show TreeW G wa t c fi la r (wrap64 (ver + 1)) by rw [hwa]; exact HT1.out)
  have HQwa := Lib.hid (show PageAt wa q es sq nq0 pq by rw [hwa]; exact ⟨HQ1.out.heap, HQ1.out.room, HQ1.out.one⟩)
  have HLwa := Lib.hid (show PageAt wa lb ls sl nl pl by rw [hwa]; exact ⟨HL1.out.heap, HL1.out.room, HL1.out.one⟩)
  have HRwa := Lib.hid (show PageAt wa rb rs sr nr pr by rw [hwa]; exact ⟨HR1.out.heap, HR1.out.room, HR1.out.one⟩)
  clear hwa
  go_wp2_with fail
  go_quiet (fail)
  obtain ⟨wb, hwb⟩ : ∃ wz, wz = wa.drewN nq := ⟨_, rfl⟩
  rw [← hwb]
  replace cq0 : wb.cell? ⟨q, 0, none⟩ = some (.int .i64 63) := by rw [hwb]; exact cq0
  replace cl0 : wb.cell? ⟨lb, 0, none⟩ = some (.int .i64 ln) := by rw [hwb]; exact cl0
  replace cr0 : wb.cell? ⟨rb, 0, none⟩ = some (.int .i64 rn) := by rw [hwb]; exact cr0
  have HCwb := Lib.hid (show Chg (fun b => b = t) w wb by rw [hwb]; exact HCwa.out.drewN _)
  have HTwb := Lib.hid (show TreeW G wb t c fi la r (wrap64 (ver + 1)) by rw [hwb]; exact HTwa.out)
  have HQwb := Lib.hid (show PageAt wb q es sq nq0 pq by rw [hwb]; exact ⟨HQwa.out.heap, HQ1.out.room, HQ1.out.one⟩)
  have HLwb := Lib.hid (show PageAt wb lb ls sl nl pl by rw [hwb]; exact ⟨HLwa.out.heap, HL1.out.room, HL1.out.one⟩)
  have HRwb := Lib.hid (show PageAt wb rb rs sr nr pr by rw [hwb]; exact ⟨HRwa.out.heap, HR1.out.room, HR1.out.one⟩)
  clear hwb
  go_wp2_with (go_at_call 110; refine (HCAT.out _ _ HCwb.out HTwb.out).mono ?_; rintro y w2 ⟨rfl, hQ⟩)
  first | go_end0 | refine bodyPost_ret (results_none rfl _ _ _) rfl ?_
  exact ⟨rfl, hQ⟩

set_option maxRecDepth 100000 in
set_option maxHeartbeats 1000000 in
theorem un_none_low (t q x b0 k : Nat) (bs : List Nat) (es : List XE) (sq xr : List Value) (nq0 pq : Value) (c : Int) (fi la r : Value) (ver : Int) (w : World) (rb : Nat) (rs : List XE) (sr : List Value) (nr pr : Value) (Q : World → Prop)
    (hq : PageAt w q es sq nq0 pq) (ht : TreeW G w t c fi la r ver) (hx : RootAt w x b0 bs xr) (hk : k ≤ bs.length) (hbs : bs.length ≤ 250) (hl : es.length = 63) (hsl : sibL (b0 :: bs) k = none) (hsr : sibR (b0 :: bs) k = some rb) (hrp : PageAt w rb rs sr nr pr) (hrl : rs.length = 64) (HCAT : Hid (∀ w1 v, Chg (fun b => b = t) w w1 → TreeW G w1 t c fi la r v → Calls Tryd.prog 110 #[.pointer (some ⟨t, 0, none⟩), .pointer (some ⟨x, 0, none⟩), .pointer (some ⟨q, 0, none⟩), .pointer (some ⟨rb, 0, none⟩), .int .i64 k] w1 (fun y w' => y = .returned (.tuple #[]) ∧ Q w'))) :
    Calls Tryd.prog 77 #[.pointer (some ⟨t, 0, none⟩), .pointer (some ⟨x, 0, none⟩), .pointer (some ⟨q, 0, none⟩), .int .i64 k] w
      (fun y w' => y = .returned (.tuple #[]) ∧ Q w') := by
  have hqt := tag_ne hq.heap ht (by decide)
  have hxt := tag_ne hx.heap ht (by decide)
  have htq : ¬ t = q := fun h => hqt h.symm
  have hrt := tag_ne hrp.heap ht (by decide)
  obtain ⟨ht1, hc1⟩ := over_start ht
  have ct5 : w.cell? ⟨t, 5, none⟩ = some (.int .i64 ver) := cell_of_heap ht 5
  have ft5 : w.frozen? ⟨t, 5, none⟩ = false := free_of_heap ht 5
  have HT1 := Lib.hid ht1
  have HC1 := Lib.hid hc1
  have HQ1 := Lib.hid (hq.chg hc1 hqt)
  have HX1 := Lib.hid (hx.chg hc1 hxt)
  have cq0 : (w.setCell ⟨t, 5, none⟩ (.int .i64 (wrap64 (ver + 1)))).cell? ⟨q, 0, none⟩ = some (.int .i64 63) := by rw [HQ1.out.cell, pgL_count, hl]; rfl
  have HR1 := Lib.hid (hrp.chg hc1 hrt)
  obtain ⟨rn, hrn⟩ : ∃ rn, rn = rs.length := ⟨_, rfl⟩
  have cr0 : (w.setCell ⟨t, 5, none⟩ (.int .i64 (wrap64 (ver + 1)))).cell? ⟨rb, 0, none⟩ = some (.int .i64 rn) := by rw [HR1.out.cell, hrn]; rfl
  have hrc : ((128 : Int) ≤ 63 + (rn : Int)) = False := by simp; omega
  have hrw : IntKind.i64.wrap (63 + (rn : Int)) = 63 + (rn : Int) := IntWalk.i64_in _ (by omega)
  have HRN := Lib.hid hrn
  have HL := Lib.hid hl
  have hsib := fun w' (h : RootAt w' x b0 bs xr) => siblings_some x b0 bs xr k w' h hk (by omega)
  rw [hsl, show pgPtr none = .pointer none from rfl] at hsib
  rw [hsr, show pgPtr (some rb) = .pointer (some ⟨rb, 0, none⟩) from rfl] at hsib
  have HS := Lib.hid hsib
  clear hsib hsl ht hq ht1 hc1 hl hx hrp hsr hrn
  go_enter Tryd.func77, Tryd.ntmps77
  go_wp2_with (go_at_call 102; refine (HS.out _ HX1.out).mono ?_; rintro y w' ⟨rfl, rfl⟩)
  go_quiet (fail)
  obtain ⟨wa, hwa⟩ : ∃ wz, wz = (w.setCell ⟨t, 5, none⟩ (.int .i64 (wrap64 (ver + 1)))).drewN nq := ⟨_, rfl⟩
  rw [← hwa]
  replace cq0 : wa.cell? ⟨q, 0, none⟩ = some (.int .i64 63) := by rw [hwa]; exact cq0
  replace cr0 : wa.cell? ⟨rb, 0, none⟩ = some (.int .i64 rn) := by rw [hwa]; exact cr0
  have HCwa := Lib.hid (show Chg (fun b => b = t) w wa by rw [hwa]; exact HC1.out.drewN _)
  have HTwa := Lib.hid (show TreeW G wa t c fi la r (wrap64 (ver + 1)) by rw [hwa]; exact HT1.out)
  have HQwa := Lib.hid (show PageAt wa q es sq nq0 pq by rw [hwa]; exact ⟨HQ1.out.heap, HQ1.out.room, HQ1.out.one⟩)
  have HRwa := Lib.hid (show PageAt wa rb rs sr nr pr by rw [hwa]; exact ⟨HR1.out.heap, HR1.out.room, HR1.out.one⟩)
  clear hwa
  go_wp2_with fail
  go_quiet (fail)
  obtain ⟨wb, hwb⟩ : ∃ wz, wz = wa.drewN nq := ⟨_, rfl⟩
  rw [← hwb]
  replace cq0 : wb.cell? ⟨q, 0, none⟩ = some (.int .i64 63) := by rw [hwb]; exact cq0
  replace cr0 : wb.cell? ⟨rb, 0, none⟩ = some (.int .i64 rn) := by rw [hwb]; exact cr0
  have HCwb := Lib.hid (show Chg (fun b => b = t) w wb by rw [hwb]; exact HCwa.out.drewN _)
  have HTwb := Lib.hid (show TreeW G wb t c fi la r (wrap64 (ver + 1)) by rw [hwb]; exact HTwa.out)
  have HQwb := Lib.hid (show PageAt wb q es sq nq0 pq by rw [hwb]; exact ⟨HQwa.out.heap, HQ1.out.room, HQ1.out.one⟩)
  have HRwb := Lib.hid (show PageAt wb rb rs sr nr pr by rw [hwb]; exact ⟨HRwa.out.heap, HR1.out.room, HR1.out.one⟩)
  clear hwb
  go_wp2_with (go_at_call 110; refine (HCAT.out _ _ HCwb.out HTwb.out).mono ?_; rintro y w2 ⟨rfl, hQ⟩)
  first | go_end0 | refine bodyPost_ret (results_none rfl _ _ _) rfl ?_
  exact ⟨rfl, hQ⟩

end Go.Proofs.YtffgkocokkhahaaDoor

/- Where a key stands: which page, and where in it. -/
namespace Go.Proofs.YtffgkocokkhahaaDoor
open Go.RowKit
variable {G : Value}

/-- The page of a place. -/
theorem place : ∀ (P : List Pg) (g : Nat), P ≠ [] → g ≤ (ents P).length → ∃ A q es B i, P = A ++ (q, es) :: B ∧ g = (ents A).length + i ∧ i ≤ es.length ∧ (A ≠ [] → 1 ≤ i)
  | [], _, h, _ => absurd rfl h
  | (q, es) :: P, g, _, hg => by
    rcases Nat.lt_or_ge es.length g with h | h
    · cases P with
      | nil => simp [ents] at hg; omega
      | cons p P =>
        obtain ⟨A, q', es', B, i, h1, h2, h3, h4⟩ := place (p :: P) (g - es.length) (by simp) (by rw [ents_cons, List.length_append] at hg; simp only at hg; omega)
        refine ⟨(q, es) :: A, q', es', B, i, by rw [h1]; rfl, by rw [ents_cons, List.length_append]; show g = es.length + _ + i; omega, h3, fun _ => ?_⟩
        cases A with
        | nil => have : (ents ([] : List Pg)).length = 0 := rfl; omega
        | cons a A => exact h4 (by simp)
    · exact ⟨[], q, es, P, g, rfl, by simp [ents], h, fun h => absurd rfl h⟩

/-- The first entries. -/
def heads (r : List Pg) : List XE := r.filterMap (fun p => p.2.head?)
theorem heads_len : ∀ {r : List Pg}, (∀ p ∈ r, 1 ≤ p.2.length) → (heads r).length = r.length
  | [], _ => rfl
  | p :: r, h => by
    have h1 := h p (by simp)
    obtain ⟨e, he⟩ : ∃ e, p.2.head? = some e := by
      cases hp : p.2 with
      | nil => rw [hp] at h1; simp at h1
      | cons e l => exact ⟨e, rfl⟩
    have h2 := heads_len (r := r) (fun q hq => h q (by simp [hq]))
    unfold heads at h2 ⊢
    rw [List.filterMap_cons_some (f := fun p : Pg => p.2.head?) he, List.length_cons, h2, List.length_cons]
theorem heads_at : ∀ {r : List Pg} (_ : ∀ p ∈ r, 1 ≤ p.2.length) (t : Nat) (p : Pg), r[t]? = some p → ∃ e, (heads r)[t]? = some e ∧ p.2[0]? = some e ∧ (ents r)[(ents (r.take t)).length]? = some e
  | [], _, _, _, h => by simp at h
  | p :: r, h, 0, q, hq => by
    obtain rfl : p = q := by simpa using hq
    have h1 := h p (by simp)
    cases hp : p.2 with
    | nil => rw [hp] at h1; simp at h1
    | cons e l =>
      refine ⟨e, ?_, rfl, ?_⟩
      · unfold heads
        rw [List.filterMap_cons_some (f := fun p : Pg => p.2.head?) (b := e) (by rw [hp]; rfl)]
        rfl
      · simp [ents, hp]
  | p :: r, h, t + 1, q, hq => by
    have h1 := h p (by simp)
    obtain ⟨e, h2, h3, h4⟩ := heads_at (r := r) (fun q hq => h q (by simp [hq])) t q (by simpa using hq)
    obtain ⟨e0, he0⟩ : ∃ e, p.2.head? = some e := by
      cases hp : p.2 with
      | nil => rw [hp] at h1; simp at h1
      | cons e l => exact ⟨e, rfl⟩
    refine ⟨e, ?_, h3, ?_⟩
    · unfold heads at h2 ⊢
      rw [List.filterMap_cons_some (f := fun p : Pg => p.2.head?) he0]
      exact h2
    · rw [List.take_succ_cons, ents_cons, ents_cons, List.length_append, List.getElem?_append_right (by omega)]
      rw [show p.2.length + (ents (r.take t)).length - p.2.length = (ents (r.take t)).length by omega]
      exact h4

theorem ents_take_le {P : List Pg} {a b : Nat} (h : a ≤ b) : (ents (P.take a)).length ≤ (ents (P.take b)).length := by
  have : P.take a = (P.take b).take a := by rw [List.take_take, Nat.min_eq_left h]
  rw [this]
  conv => rhs; rw [← List.take_append_drop a (P.take b), ents_append, List.length_append]
  omega

/-- At the root: which page. -/
theorem root_pos {P A B : List Pg} {q : Nat} {es : List XE} {i g : Nat} {s : Nat → Int} (hP : P = A ++ (q, es) :: B) (hg : g = (ents A).length + i) (hi : i ≤ es.length) (hi1 : A ≠ [] → 1 ≤ i)
    (hn : ∀ p ∈ P, 1 ≤ p.2.length) (hs : Pos s (ents P).length g false) : Pos (fun t => s (ents (P.take (t + 1))).length) (heads P.tail).length A.length false := by
  have hl : (heads P.tail).length = A.length + B.length := by
    rw [heads_len (fun p hp => hn p (List.mem_of_mem_tail hp)), hP]
    simp
  have hoff : ∀ t, t < A.length → (ents (P.take (t + 1))).length < g := fun t ht => by
    have h1 : (ents (P.take (t + 1))).length ≤ (ents (P.take A.length)).length := ents_take_le (by omega)
    have h2 : P.take A.length = A := by rw [hP, List.take_left' rfl]
    rw [h2] at h1
    have := hi1 (by rintro rfl; simp at ht)
    omega
  have hbeh : ∀ t, A.length ≤ t → t < A.length + B.length → g ≤ (ents (P.take (t + 1))).length ∧ (ents (P.take (t + 1))).length < (ents P).length := fun t h1 h2 => by
    have h3 : (ents (P.take (A.length + 1))).length ≤ (ents (P.take (t + 1))).length := ents_take_le (by omega)
    have h4 : P.take (A.length + 1) = A ++ [(q, es)] := by
      rw [hP, show A ++ (q, es) :: B = (A ++ [(q, es)]) ++ B by simp]
      exact List.take_left' (by simp)
    rw [h4, ents_append] at h3
    refine ⟨by simp [ents] at h3 ⊢; simp [ents] at hg; omega, ?_⟩
    have hd : P.drop (t + 1) ≠ [] := by
      intro he
      have := congrArg List.length he
      rw [List.length_drop, hP] at this
      simp at this
      omega
    obtain ⟨p, r, hpr⟩ := List.exists_cons_of_ne_nil hd
    have hp1 := hn p (by have : p ∈ P.drop (t + 1) := by rw [hpr]; simp
                         exact List.mem_of_mem_drop this)
    conv => rhs; rw [← List.take_append_drop (t + 1) P, ents_append, List.length_append, hpr, ents_cons, List.length_append]
    omega
  have hneg : ∀ t, A.length ≤ t → t < A.length + B.length → s (ents (P.take (t + 1))).length < 0 := fun t h1 h2 => by
    obtain ⟨h3, h4⟩ := hbeh t h1 h2
    rcases Nat.eq_or_lt_of_le h3 with h5 | h5
    · have := hs.miss rfl (by omega)
      rw [h5] at this
      exact this
    · exact hs.behind _ h5 h4
  refine ⟨by rw [hl]; omega, fun t ht => hs.ahead _ (hoff t ht), fun t h1 h2 => hneg t (by omega) (by rw [hl] at h2; exact h2), fun h => (by cases h), fun _ h => hneg _ (Nat.le_refl _) (by rw [hl] at h; exact h)⟩

/-- In a page: where. -/
theorem page_pos {A B : List Pg} {q : Nat} {es : List XE} {i g : Nat} {s : Nat → Int} (hg : g = (ents A).length + i) (hi : i ≤ es.length) (hs : Pos s (ents (A ++ (q, es) :: B)).length g false) :
    Pos (fun r => s ((ents A).length + r)) es.length i false := by
  have hl : (ents (A ++ (q, es) :: B)).length = (ents A).length + (es.length + (ents B).length) := by rw [ents_append, ents_cons]; simp
  rw [hl] at hs
  refine ⟨hi, fun r hr => hs.ahead _ (by omega), fun r h1 h2 => hs.behind _ (by omega) (by omega), fun h => (by cases h), fun _ h => ?_⟩
  have := hs.miss rfl (by omega)
  rw [hg] at this
  exact this

theorem page_at {A B : List Pg} {q : Nat} {es : List XE} {r : Nat} {e : XE} (h : es[r]? = some e) : (ents (A ++ (q, es) :: B))[(ents A).length + r]? = some e := by
  have hr : r < es.length := (List.getElem?_eq_some_iff.1 h).1
  rw [ents_append, ents_cons, List.getElem?_append_right (by omega), show (ents A).length + r - (ents A).length = r by omega, List.getElem?_append_left hr]
  exact h

theorem head_at {P : List Pg} (hn : ∀ p ∈ P, 1 ≤ p.2.length) (t : Nat) (e : XE) (h : (heads P.tail)[t]? = some e) : (ents P)[(ents (P.take (t + 1))).length]? = some e := by
  cases P with
  | nil => simp [heads] at h
  | cons p P =>
    have hn2 : ∀ q ∈ P, 1 ≤ q.2.length := fun q hq => hn q (by simp [hq])
    have hlt : t < P.length := by rw [← heads_len hn2]; exact (List.getElem?_eq_some_iff.1 h).1
    obtain ⟨e', h1, _, h3⟩ := heads_at hn2 t P[t] (List.getElem?_eq_getElem hlt)
    obtain rfl : e = e' := Option.some.inj (h.symm.trans h1)
    rw [List.take_succ_cons, ents_cons, ents_cons, List.length_append, List.getElem?_append_right (by omega), show p.2.length + (ents (P.take t)).length - p.2.length = (ents (P.take t)).length by omega]
    exact h3

end Go.Proofs.YtffgkocokkhahaaDoor
