/-
  (*xd).mvL, (*xd).mvR: elements go to a neighbour.
-/
import Derived.Test.YtffgkocokkhahaaGreatDoorXi
namespace Go.Proofs.YtffgkocokkhahaaGreatDoor
open Go.RowKit

def MoveP (l r : Nat) (el er : List XE) (nl pl nr pr : Value) (w : World) (x : Ending) (w' : World) : Prop :=
  x = .returned (.tuple #[]) ∧ (∃ rest, PageAt w' l el rest nl pl) ∧ (∃ rest, PageAt w' r er rest nr pr) ∧ Chg (fun b => b = l ∨ b = r) w w'

theorem page_len {w : World} {q : Nat} {es : List XE} {rest : List Value} {nx pv : Value} (hq : PageAt w q es rest nx pv) : (pgL XE.cells es rest [nx, pv]).length = 390 := by
  have := hq.room
  rw [pgL_length XE.cells 3 XE.three]
  simp
  omega

theorem flat_len (es : List XE) : (flat XE.cells es).length = es.length * 3 := flat_length XE.cells 3 XE.three es

set_option maxRecDepth 100000 in
set_option maxHeartbeats 1000000 in
theorem mvL_any (l r c : Nat) (el er : List XE) (sl sr : List Value) (nl pl nr pr : Value) (w : World) (hl : PageAt w l el sl nl pl) (hr : PageAt w r er sr nr pr) (hne : ¬ l = r)
    (hc : c ≤ er.length) (h1 : el.length + c ≤ 128) (h2 : el.length ≤ 127) (h3 : er.length ≤ 128) :
    Calls Tryz.prog 112 #[.pointer (some ⟨l, 0, none⟩), .pointer (some ⟨r, 0, none⟩), .int .i64 c] w (MoveP l r (el ++ er.take c) (er.drop c) nl pl nr pr w) := by
  have hne' : ¬ r = l := fun h => hne h.symm
  obtain ⟨n, hn⟩ : ∃ n, n = el.length := ⟨_, rfl⟩
  obtain ⟨m, hm⟩ : ∃ m, m = er.length := ⟨_, rfl⟩
  have HL := Lib.hid hl
  have HR := Lib.hid hr
  have HLL := Lib.hid (page_len hl)
  have HRL := Lib.hid (page_len hr)
  have cl0 : w.cell? ⟨l, 0, none⟩ = some (.int .i64 n) := by rw [hl.cell, hn]; rfl
  have fl0 : w.frozen? ⟨l, 0, none⟩ = false := hl.free 0
  have hs1 := run_cut_l (P := Tryz.prog) arrde szde l 1 n (by omega)
  have hs2 := run_cut_h (P := Tryz.prog) arrde szde r 1 c (by omega)
  have ft1 : (flat XE.cells (er.take c)).length = c * 3 := by rw [flat_len, List.length_take, Nat.min_eq_left hc]
  have ft2 : (flat XE.cells (er.drop c)).length = (m - c) * 3 := by rw [flat_len, List.length_drop, hm]
  have FT1 := Lib.hid ft1
  have FT2 := Lib.hid ft2
  have HC := Lib.hid hc
  have h4 := hl.room
  have h5 := hr.room
  rw [← hn] at h1 h2 h4
  rw [← hm] at hc h3 h5
  have HN := Lib.hid hn
  have HM := Lib.hid hm
  clear hl hr hn hm ft1 ft2
  go_enter Tryz.func112, Tryz.ntmps112
  go_wp2
  go_still_tail 13, (by kernel_rfl)
  change wpList _ _ _ _ _ w.drew
  refine wpList_copy_rows rfl (.tmp 13) (.tmp 18) 220 220 rfl 172 3 Tryz.underlying220 szde (some ⟨l, 1 + n * 3, none⟩) (some ⟨r, 1, none⟩) (129 - n) (129 - n) c 129 rfl rfl
    l (1 + n * 3) (pgL XE.cells el sl [nl, pl]).toArray 175 HL.out.heap (flat XE.cells (er.take c)) ?c2 (by omega) ?c3 ?c4 (flat_one _) ?_
  case c2 => rw [FT1.out]; show c * 3 = min c (129 - n) * 3; rw [Nat.min_eq_left (by omega)]
  case c3 => exact fun _ => ⟨rfl, _, rfl, fun j v h => by rw [add_mk]; exact (HR.out.cell _).trans (by have := pgL_src XE.cells 3 XE.three er sr [nr, pr] 0 c j v (by simpa using h); simpa using this)⟩
  case c4 => rw [FT1.out, List.size_toArray, HLL.out]; omega
  intro w2 HG2 HC2
  obtain ⟨L, hL⟩ : ∃ L, splice (pgL XE.cells el sl [nl, pl]) (1 + n * 3) (flat XE.cells (er.take c)) = L := ⟨_, rfl⟩
  rw [List.toList_toArray, hL] at HG2
  have HLs := Lib.hid hL
  have HR2 := Lib.hid (show PageAt w2 r er sr nr pr from ⟨heap_chg (w := w.drew) HR.out.heap HC2.out hne', HR.out.room, HR.out.one⟩)
  have hLl : L.length = 390 := by rw [← hL, length_splice _ _ _ (by rw [FT1.out, HLL.out]; omega)]; exact HLL.out
  replace cl0 : w2.cell? ⟨l, 0, none⟩ = some (.int .i64 n) := by
    rw [cell_of_heap HG2.out, List.getElem?_toArray, ← hL, splice_low _ _ _ 0 (by omega) (by rw [HLL.out]; omega), HN.out]
    rfl
  replace fl0 : w2.frozen? ⟨l, 0, none⟩ = false := free_of_heap HG2.out 0
  have cr0 : w2.cell? ⟨r, 0, none⟩ = some (.int .i64 m) := by rw [HR2.out.cell, HM.out]; rfl
  have fr0 : w2.frozen? ⟨r, 0, none⟩ = false := HR2.out.free 0
  clear hL hs1 hs2
  have hs3 := run_cut_all (P := Tryz.prog) arrde szde r 1
  have hs4 := run_cut_lh (P := Tryz.prog) arrde szde r 1 c m (by omega) (by omega) (by omega)
  go_wp2
  go_still_tail 13, (by kernel_rfl)
  change wpList _ _ _ _ _ w2.drew
  refine wpList_copy_rows rfl (.tmp 23) (.tmp 32) 220 220 rfl 172 3 Tryz.underlying220 szde (some ⟨r, 1, none⟩) (some ⟨r, 1 + c * 3, none⟩) 129 129 (m - c) (129 - c) rfl rfl
    r 1 (pgL XE.cells er sr [nr, pr]).toArray 175 HR2.out.heap (flat XE.cells (er.drop c)) ?d2 (by omega) ?d3 ?d4 (flat_one _) ?_
  case d2 => rw [FT2.out]; show (m - c) * 3 = min (m - c) 129 * 3; rw [Nat.min_eq_left (by omega)]
  case d3 => exact fun _ => ⟨rfl, _, rfl, fun j v h => by rw [add_mk]; exact (HR2.out.cell _).trans (pgL_src XE.cells 3 XE.three er sr [nr, pr] c er.length j v (by rw [List.take_of_length_le (by simp)]; exact h))⟩
  case d4 => rw [FT2.out, List.size_toArray, HRL.out]; omega
  intro w3 HG3 HC3
  obtain ⟨R, hR⟩ : ∃ R, splice (pgL XE.cells er sr [nr, pr]) 1 (flat XE.cells (er.drop c)) = R := ⟨_, rfl⟩
  rw [List.toList_toArray, hR] at HG3
  have HRs := Lib.hid hR
  have HL3 := Lib.hid (show w3.heap[l]? = _ from heap_chg (w := w2.drew) HG2.out HC3.out hne)
  replace cl0 : w3.cell? ⟨l, 0, none⟩ = some (.int .i64 n) := by rw [cell_of_heap HL3.out, ← cell_of_heap HG2.out]; exact cl0
  replace fl0 : w3.frozen? ⟨l, 0, none⟩ = false := free_of_heap HL3.out 0
  replace cr0 : w3.cell? ⟨r, 0, none⟩ = some (.int .i64 m) := by
    rw [cell_of_heap HG3.out, List.getElem?_toArray, ← hR, splice_low _ _ _ 0 (by omega) (by rw [HRL.out]; omega), HM.out]
    rfl
  replace fr0 : w3.frozen? ⟨r, 0, none⟩ = false := free_of_heap HG3.out 0
  clear hR hs3 hs4
  go_wp2
  go_end0
  have a1 := add_row XE.cells 3 XE.three el (er.take c) sl [nl, pl] (by rw [List.length_take, Nat.min_eq_left HC.out]; omega)
  rw [List.length_take, Nat.min_eq_left HC.out, ← HN.out, HLs.out] at a1
  obtain ⟨rest', b1, b2, b3⟩ := cut_row XE.cells 3 XE.three er sr [nr, pr] c HC.out
  rw [HRs.out, ← HM.out] at b3
  refine ⟨rfl, ⟨sl.drop (c * 3), ⟨?_, ?_, fun x hx => HL.out.one x (List.mem_of_mem_drop hx)⟩⟩, ⟨rest', ⟨?_, ?_, fun x hx => ?_⟩⟩, ?_⟩
  · rw [← a1]
    simp only [heap_setCell_ne _ _ _ _ _ hne, heap_setCell_at, HL3.out, Option.map_some, updObj_cells, List.setIfInBounds_toArray]
    rfl
  · rw [List.length_append, List.length_take, Nat.min_eq_left HC.out, List.length_drop, ← HN.out]
    omega
  · rw [← b3]
    simp only [heap_setCell_ne _ _ _ _ _ hne', heap_setCell_at, HG3.out, Option.map_some, updObj_cells, List.setIfInBounds_toArray]
    rw [show ((m : Int) - (c : Int)) = ((m - c : Nat) : Int) by omega]
  · rw [List.length_drop, ← HM.out]
    omega
  · rcases b2 x hx with h | h
    · exact flat_one _ x h
    · exact HR.out.one x h
  · exact ((((Chg.refl _ _).drew.trans (HC2.out.mono fun b _ h => .inl h)).drew.trans (HC3.out.mono fun b _ h => .inr h)).setCell (.inl (.inl rfl)) _).setCell (.inl (.inr rfl)) _

set_option maxRecDepth 100000 in
set_option maxHeartbeats 1000000 in
theorem mvR_any (l r c : Nat) (el er : List XE) (sl sr : List Value) (nl pl nr pr : Value) (w : World) (hl : PageAt w l el sl nl pl) (hr : PageAt w r er sr nr pr) (hne : ¬ l = r)
    (hc : c ≤ el.length) (h1 : er.length + c ≤ 128) (h2 : el.length ≤ 128) :
    Calls Tryz.prog 113 #[.pointer (some ⟨l, 0, none⟩), .pointer (some ⟨r, 0, none⟩), .int .i64 c] w (MoveP l r (el.take (el.length - c)) (el.drop (el.length - c) ++ er) nl pl nr pr w) := by
  have hne' : ¬ r = l := fun h => hne h.symm
  obtain ⟨n, hn⟩ : ∃ n, n = el.length := ⟨_, rfl⟩
  obtain ⟨m, hm⟩ : ∃ m, m = er.length := ⟨_, rfl⟩
  obtain ⟨d, hd⟩ : ∃ d, d = n - c := ⟨_, rfl⟩
  rw [← hn, ← hd]
  have HL := Lib.hid hl
  have HR := Lib.hid hr
  have HLL := Lib.hid (page_len hl)
  have HRL := Lib.hid (page_len hr)
  have cr0 : w.cell? ⟨r, 0, none⟩ = some (.int .i64 m) := by rw [hr.cell, hm]; rfl
  have fr0 : w.frozen? ⟨r, 0, none⟩ = false := hr.free 0
  have ft1 : (flat XE.cells er).length = m * 3 := by rw [flat_len, hm]
  have ft2 : (flat XE.cells (el.drop d)).length = c * 3 := by rw [flat_len, List.length_drop]; omega
  have FT1 := Lib.hid ft1
  have FT2 := Lib.hid ft2
  have h4 := hl.room
  have h5 := hr.room
  rw [← hn] at hc h2 h4
  rw [← hm] at h1 h5
  have hs1 := run_cut_l (P := Tryz.prog) arrde szde r 1 c (by omega)
  have hs2 := run_cut_h (P := Tryz.prog) arrde szde r 1 m (by omega)
  have hdn : d ≤ n := by omega
  have hdc : d + c = n := by omega
  have HN := Lib.hid hn
  have HM := Lib.hid hm
  have HD := Lib.hid hd
  clear hl hr hn hm ft1 ft2 hd
  go_enter Tryz.func113, Tryz.ntmps113
  go_wp2
  go_still_tail 13, (by kernel_rfl)
  change wpList _ _ _ _ _ w.drew
  refine wpList_copy_rows rfl (.tmp 10) (.tmp 18) 220 220 rfl 172 3 Tryz.underlying220 szde (some ⟨r, 1 + c * 3, none⟩) (some ⟨r, 1, none⟩) (129 - c) (129 - c) m 129 rfl rfl
    r (1 + c * 3) (pgL XE.cells er sr [nr, pr]).toArray 175 HR.out.heap (flat XE.cells er) ?c2 (by omega) ?c3 ?c4 (flat_one _) ?_
  case c2 => rw [FT1.out]; show m * 3 = min m (129 - c) * 3; rw [Nat.min_eq_left (by omega)]
  case c3 => exact fun _ => ⟨rfl, _, rfl, fun j v h => by rw [add_mk]; exact (HR.out.cell _).trans (by have := pgL_src XE.cells 3 XE.three er sr [nr, pr] 0 er.length j v (by simpa using h); simpa using this)⟩
  case c4 => rw [FT1.out, List.size_toArray, HRL.out]; omega
  intro w2 HG2 HC2
  obtain ⟨L, hL⟩ : ∃ L, splice (pgL XE.cells er sr [nr, pr]) (1 + c * 3) (flat XE.cells er) = L := ⟨_, rfl⟩
  rw [List.toList_toArray, hL] at HG2
  have HLs := Lib.hid hL
  have HL2 := Lib.hid (show PageAt w2 l el sl nl pl from ⟨heap_chg (w := w.drew) HL.out.heap HC2.out hne, HL.out.room, HL.out.one⟩)
  have hLl := Lib.hid (show L.length = 390 by rw [← hL, length_splice _ _ _ (by rw [FT1.out, HRL.out]; omega)]; exact HRL.out)
  replace cr0 : w2.cell? ⟨r, 0, none⟩ = some (.int .i64 m) := by
    rw [cell_of_heap HG2.out, List.getElem?_toArray, ← hL, splice_low _ _ _ 0 (by omega) (by rw [HRL.out]; omega), HM.out]
    rfl
  replace fr0 : w2.frozen? ⟨r, 0, none⟩ = false := free_of_heap HG2.out 0
  have cl0 : w2.cell? ⟨l, 0, none⟩ = some (.int .i64 n) := by rw [HL2.out.cell, HN.out]; rfl
  have fl0 : w2.frozen? ⟨l, 0, none⟩ = false := HL2.out.free 0
  clear hL hs1 hs2
  have hw : IntKind.i64.wrap (↑n - ↑c) = (d : Int) := by rw [IntWalk.i64_in _ (by omega)]; omega
  have hs3 := run_cut_h (P := Tryz.prog) arrde szde r 1 c (by omega)
  have hs4 := run_cut_l (P := Tryz.prog) arrde szde l 1 d (by omega)
  go_wp2
  go_still_tail 15, (by kernel_rfl)
  change wpList _ _ _ _ _ w2.drew
  refine wpList_copy_rows rfl (.tmp 24) (.tmp 34) 220 220 rfl 172 3 Tryz.underlying220 szde (some ⟨r, 1, none⟩) (some ⟨l, 1 + d * 3, none⟩) c 129 (129 - d) (129 - d) rfl rfl
    r 1 L.toArray 175 HG2.out (flat XE.cells (el.drop d)) ?d2 (by omega) ?d3 ?d4 (flat_one _) ?_
  case d2 => rw [FT2.out]; show c * 3 = min (129 - d) c * 3; rw [Nat.min_eq_right (by omega)]
  case d3 => exact fun _ => ⟨rfl, _, rfl, fun j v h => by rw [add_mk]; exact (HL2.out.cell _).trans (pgL_src XE.cells 3 XE.three el sl [nl, pl] d el.length j v (by rw [List.take_of_length_le (by simp)]; exact h))⟩
  case d4 => rw [FT2.out, List.size_toArray, hLl.out]; omega
  intro w3 HG3 HC3
  obtain ⟨R, hR⟩ : ∃ R, splice L 1 (flat XE.cells (el.drop d)) = R := ⟨_, rfl⟩
  rw [List.toList_toArray, hR] at HG3
  have HRs := Lib.hid hR
  have HL3 := Lib.hid (show PageAt w3 l el sl nl pl from ⟨heap_chg (w := w2.drew) HL2.out.heap HC3.out hne, HL.out.room, HL.out.one⟩)
  replace cr0 : w3.cell? ⟨r, 0, none⟩ = some (.int .i64 m) := by
    rw [cell_of_heap HG3.out, List.getElem?_toArray, ← hR, splice_low _ _ _ 0 (by omega) (by rw [hLl.out]; omega), ← List.getElem?_toArray, ← cell_of_heap HG2.out]
    exact cr0
  replace fr0 : w3.frozen? ⟨r, 0, none⟩ = false := free_of_heap HG3.out 0
  replace cl0 : w3.cell? ⟨l, 0, none⟩ = some (.int .i64 n) := by rw [HL3.out.cell, HN.out]; rfl
  replace fl0 : w3.frozen? ⟨l, 0, none⟩ = false := HL3.out.free 0
  clear hR hs3 hs4 hw
  go_wp2
  go_end0
  have a1 := less_row XE.cells el sl [nl, pl] d (by rw [← HN.out]; exact hdn)
  have fd : (el.drop d).length = c := by rw [List.length_drop, ← HN.out]; omega
  have a2 := fore_row XE.cells 3 XE.three er (el.drop d) sr [nr, pr] (by rw [fd]; omega)
  rw [fd, HLs.out, HRs.out, ← HM.out] at a2
  refine ⟨rfl, ⟨flat XE.cells (el.drop d) ++ sl, ⟨?_, ?_, fun x hx => ?_⟩⟩, ⟨sr.drop (c * 3), ⟨?_, ?_, fun x hx => HR.out.one x (List.mem_of_mem_drop hx)⟩⟩, ?_⟩
  · rw [← a1]
    simp only [heap_setCell_ne _ _ _ _ _ hne, heap_setCell_at, HL3.out.heap, Option.map_some, updObj_cells, List.setIfInBounds_toArray]
    rw [show ((n : Int) - (c : Int)) = ((d : Nat) : Int) by omega]
  · rw [List.length_append, FT2.out, List.length_take, Nat.min_eq_left (by rw [← HN.out]; exact hdn)]
    omega
  · rcases List.mem_append.1 hx with h | h
    · exact flat_one _ x h
    · exact HL.out.one x h
  · rw [← a2]
    simp only [heap_setCell_ne _ _ _ _ _ hne', heap_setCell_at, HG3.out, Option.map_some, updObj_cells, List.setIfInBounds_toArray]
    rfl
  · rw [List.length_append, fd, List.length_drop, ← HM.out]
    omega
  · exact ((((Chg.refl _ _).drew.trans (HC2.out.mono fun b _ h => .inr h)).drew.trans (HC3.out.mono fun b _ h => .inr h)).setCell (.inl (.inr rfl)) _).setCell (.inl (.inl rfl)) _

end Go.Proofs.YtffgkocokkhahaaGreatDoor
