/-
  (*d).mvL, (*d).mvR: elements go to a neighbour. || The root's neighbours; a page hung into the root; a new root.
-/
import Derived.Test.YtffgkocokkhahaaDoorTp12
import Derived.StillTailTactics

/- (*d).mvL, (*d).mvR: elements go to a neighbour. -/
namespace Go.Proofs.YtffgkocokkhahaaDoor
open Go.RowKit
variable {G : Value}

def MoveP (l r : Nat) (el er : List XE) (nl pl nr pr : Value) (w : World) (x : Ending) (w' : World) : Prop :=
  x = .returned (.tuple #[]) ∧ (∃ rest, PageAt w' l el rest nl pl) ∧ (∃ rest, PageAt w' r er rest nr pr) ∧ Chg (fun b => b = l ∨ b = r) w w'

theorem page_len {w : World} {q : Nat} {es : List XE} {rest : List Value} {nx pv : Value} (hq : PageAt w q es rest nx pv) : (pgL XE.cells es rest [nx, pv]).length = 261 := by
  have := hq.room
  rw [pgL_length XE.cells 2 XE.two]
  simp
  omega

theorem flat_len (es : List XE) : (flat XE.cells es).length = es.length * 2 := flat_length XE.cells 2 XE.two es

set_option maxRecDepth 100000 in
set_option maxHeartbeats 1000000 in
theorem mvL_any (l r c : Nat) (el er : List XE) (sl sr : List Value) (nl pl nr pr : Value) (w : World) (hl : PageAt w l el sl nl pl) (hr : PageAt w r er sr nr pr) (hne : ¬ l = r)
    (hc : c ≤ er.length) (h1 : el.length + c ≤ 128) (h2 : el.length ≤ 127) (h3 : er.length ≤ 128) :
    Calls Tryd.prog 103 #[.pointer (some ⟨l, 0, none⟩), .pointer (some ⟨r, 0, none⟩), .int .i64 c] w (MoveP l r (el ++ er.take c) (er.drop c) nl pl nr pr w) := by
  have hne' : ¬ r = l := fun h => hne h.symm
  obtain ⟨n, hn⟩ : ∃ n, n = el.length := ⟨_, rfl⟩
  obtain ⟨m, hm⟩ : ∃ m, m = er.length := ⟨_, rfl⟩
  have HL := Lib.hid hl
  have HR := Lib.hid hr
  have HLL := Lib.hid (page_len hl)
  have HRL := Lib.hid (page_len hr)
  have cl0 : w.cell? ⟨l, 0, none⟩ = some (.int .i64 n) := by rw [hl.cell, hn]; rfl
  have fl0 : w.frozen? ⟨l, 0, none⟩ = false := hl.free 0
  have hs1 := run_cut_l (P := Tryd.prog) arrde szde l 1 n (by omega)
  have hs2 := run_cut_h (P := Tryd.prog) arrde szde r 1 c (by omega)
  have ft1 : (flat XE.cells (er.take c)).length = c * 2 := by rw [flat_len, List.length_take, Nat.min_eq_left hc]
  have ft2 : (flat XE.cells (er.drop c)).length = (m - c) * 2 := by rw [flat_len, List.length_drop, hm]
  have FT1 := Lib.hid ft1
  have FT2 := Lib.hid ft2
  have HC := Lib.hid hc
  have h4 := hl.room
  have h5 := hr.room
  rw [← hn] at h1 h2 h4
  rw [← hm] at hc h3 h5
  have HN := Lib.hid hn
  have HM := Lib.hid hm
  clear hl hr hn hm ft1 ft2
  go_enter Tryd.func103, Tryd.ntmps103
  go_wp2
  go_still_tail 13, (by kernel_rfl)
  change wpList _ _ _ _ _ w.drew
  refine wpList_copy_rows rfl (.tmp 13) (.tmp 18) 211 211 rfl 129 2 Tryd.underlying211 szde (some ⟨l, 1 + n * 2, none⟩) (some ⟨r, 1, none⟩) (129 - n) (129 - n) c 129 rfl rfl
    l (1 + n * 2) (pgL XE.cells el sl [nl, pl]).toArray 132 HL.out.heap (flat XE.cells (er.take c)) ?c2 (by omega) ?c3 ?c4 (flat_one _) ?_
  case c2 => rw [FT1.out]; show c * 2 = min c (129 - n) * 2; rw [Nat.min_eq_left (by omega)]
  case c3 => exact fun _ => ⟨rfl, _, rfl, fun j v h => by rw [add_mk]; exact (HR.out.cell _).trans (by have := pgL_src XE.cells 2 XE.two er sr [nr, pr] 0 c j v (by simpa using h); simpa using this)⟩
  case c4 => rw [FT1.out, List.size_toArray, HLL.out]; omega
  intro w2 HG2 HC2
  obtain ⟨L, hL⟩ : ∃ L, splice (pgL XE.cells el sl [nl, pl]) (1 + n * 2) (flat XE.cells (er.take c)) = L := ⟨_, rfl⟩
  rw [List.toList_toArray, hL] at HG2
  have HLs := Lib.hid hL
  have HR2 := Lib.hid (show PageAt w2 r er sr nr pr from ⟨heap_chg (w := w.drew) HR.out.heap HC2.out hne', HR.out.room, HR.out.one⟩)
  have hLl : L.length = 261 := by rw [← hL, length_splice _ _ _ (by rw [FT1.out, HLL.out]; omega)]; exact HLL.out
  replace cl0 : w2.cell? ⟨l, 0, none⟩ = some (.int .i64 n) := by
    rw [cell_of_heap HG2.out, List.getElem?_toArray, ← hL, splice_low _ _ _ 0 (by omega) (by rw [HLL.out]; omega), HN.out]
    rfl
  replace fl0 : w2.frozen? ⟨l, 0, none⟩ = false := free_of_heap HG2.out 0
  have cr0 : w2.cell? ⟨r, 0, none⟩ = some (.int .i64 m) := by rw [HR2.out.cell, HM.out]; rfl
  have fr0 : w2.frozen? ⟨r, 0, none⟩ = false := HR2.out.free 0
  clear hL hs1 hs2
  have hs3 := run_cut_all (P := Tryd.prog) arrde szde r 1
  have hs4 := run_cut_lh (P := Tryd.prog) arrde szde r 1 c m (by omega) (by omega) (by omega)
  go_wp2
  go_still_tail 13, (by kernel_rfl)
  change wpList _ _ _ _ _ w2.drew
  refine wpList_copy_rows rfl (.tmp 23) (.tmp 32) 211 211 rfl 129 2 Tryd.underlying211 szde (some ⟨r, 1, none⟩) (some ⟨r, 1 + c * 2, none⟩) 129 129 (m - c) (129 - c) rfl rfl
    r 1 (pgL XE.cells er sr [nr, pr]).toArray 132 HR2.out.heap (flat XE.cells (er.drop c)) ?d2 (by omega) ?d3 ?d4 (flat_one _) ?_
  case d2 => rw [FT2.out]; show (m - c) * 2 = min (m - c) 129 * 2; rw [Nat.min_eq_left (by omega)]
  case d3 => exact fun _ => ⟨rfl, _, rfl, fun j v h => by rw [add_mk]; exact (HR2.out.cell _).trans (pgL_src XE.cells 2 XE.two er sr [nr, pr] c er.length j v (by rw [List.take_of_length_le (by simp)]; exact h))⟩
  case d4 => rw [FT2.out, List.size_toArray, HRL.out]; omega
  intro w3 HG3 HC3
  obtain ⟨R, hR⟩ : ∃ R, splice (pgL XE.cells er sr [nr, pr]) 1 (flat XE.cells (er.drop c)) = R := ⟨_, rfl⟩
  rw [List.toList_toArray, hR] at HG3
  have HRs := Lib.hid hR
  have HL3 := Lib.hid (show w3.heap[l]? = _ from heap_chg (w := w2.drew) HG2.out HC3.out hne)
  replace cl0 : w3.cell? ⟨l, 0, none⟩ = some (.int .i64 n) := by rw [cell_of_heap HL3.out, ← cell_of_heap HG2.out]; exact cl0
  replace fl0 : w3.frozen? ⟨l, 0, none⟩ = false := free_of_heap HL3.out 0
  replace cr0 : w3.cell? ⟨r, 0, none⟩ = some (.int .i64 m) := by
    rw [cell_of_heap HG3.out, List.getElem?_toArray, ← hR, splice_low _ _ _ 0 (by omega) (by rw [HRL.out]; omega), HM.out]
    rfl
  replace fr0 : w3.frozen? ⟨r, 0, none⟩ = false := free_of_heap HG3.out 0
  clear hR hs3 hs4
  go_wp2
  go_end0
  have a1 := add_row XE.cells 2 XE.two el (er.take c) sl [nl, pl] (by rw [List.length_take, Nat.min_eq_left HC.out]; omega)
  rw [List.length_take, Nat.min_eq_left HC.out, ← HN.out, HLs.out] at a1
  obtain ⟨rest', b1, b2, b3⟩ := cut_row XE.cells 2 XE.two er sr [nr, pr] c HC.out
  rw [HRs.out, ← HM.out] at b3
  refine ⟨rfl, ⟨sl.drop (c * 2), ⟨?_, ?_, fun x hx => HL.out.one x (List.mem_of_mem_drop hx)⟩⟩, ⟨rest', ⟨?_, ?_, fun x hx => ?_⟩⟩, ?_⟩
  · rw [← a1]
    simp only [heap_setCell_ne _ _ _ _ _ hne, heap_setCell_at, HL3.out, Option.map_some, updObj_cells, List.setIfInBounds_toArray]
    rfl
  · rw [List.length_append, List.length_take, Nat.min_eq_left HC.out, List.length_drop, ← HN.out]
    omega
  · rw [← b3]
    simp only [heap_setCell_ne _ _ _ _ _ hne', heap_setCell_at, HG3.out, Option.map_some, updObj_cells, List.setIfInBounds_toArray]
    rw [show ((m : Int) - (c : Int)) = ((m - c : Nat) : Int) by omega]
  · rw [List.length_drop, ← HM.out]
    omega
  · rcases b2 x hx with h | h
    · exact flat_one _ x h
    · exact HR.out.one x h
  · exact ((((Chg.refl _ _).drew.trans (HC2.out.mono fun b _ h => .inl h)).drew.trans (HC3.out.mono fun b _ h => .inr h)).setCell (.inl (.inl rfl)) _).setCell (.inl (.inr rfl)) _

set_option maxRecDepth 100000 in
set_option maxHeartbeats 1000000 in
theorem mvR_any (l r c : Nat) (el er : List XE) (sl sr : List Value) (nl pl nr pr : Value) (w : World) (hl : PageAt w l el sl nl pl) (hr : PageAt w r er sr nr pr) (hne : ¬ l = r)
    (hc : c ≤ el.length) (h1 : er.length + c ≤ 128) (h2 : el.length ≤ 128) :
    Calls Tryd.prog 104 #[.pointer (some ⟨l, 0, none⟩), .pointer (some ⟨r, 0, none⟩), .int .i64 c] w (MoveP l r (el.take (el.length - c)) (el.drop (el.length - c) ++ er) nl pl nr pr w) := by
  have hne' : ¬ r = l := fun h => hne h.symm
  obtain ⟨n, hn⟩ : ∃ n, n = el.length := ⟨_, rfl⟩
  obtain ⟨m, hm⟩ : ∃ m, m = er.length := ⟨_, rfl⟩
  obtain ⟨d, hd⟩ : ∃ d, d = n - c := ⟨_, rfl⟩
  rw [← hn, ← hd]
  have HL := Lib.hid hl
  have HR := Lib.hid hr
  have HLL := Lib.hid (page_len hl)
  have HRL := Lib.hid (page_len hr)
  have cr0 : w.cell? ⟨r, 0, none⟩ = some (.int .i64 m) := by rw [hr.cell, hm]; rfl
  have fr0 : w.frozen? ⟨r, 0, none⟩ = false := hr.free 0
  have ft1 : (flat XE.cells er).length = m * 2 := by rw [flat_len, hm]
  have ft2 : (flat XE.cells (el.drop d)).length = c * 2 := by rw [flat_len, List.length_drop]; omega
  have FT1 := Lib.hid ft1
  have FT2 := Lib.hid ft2
  have h4 := hl.room
  have h5 := hr.room
  rw [← hn] at hc h2 h4
  rw [← hm] at h1 h5
  have hs1 := run_cut_l (P := Tryd.prog) arrde szde r 1 c (by omega)
  have hs2 := run_cut_h (P := Tryd.prog) arrde szde r 1 m (by omega)
  have hdn : d ≤ n := by omega
  have hdc : d + c = n := by omega
  have HN := Lib.hid hn
  have HM := Lib.hid hm
  have HD := Lib.hid hd
  clear hl hr hn hm ft1 ft2 hd
  go_enter Tryd.func104, Tryd.ntmps104
  go_wp2
  go_still_tail 13, (by kernel_rfl)
  change wpList _ _ _ _ _ w.drew
  refine wpList_copy_rows rfl (.tmp 10) (.tmp 18) 211 211 rfl 129 2 Tryd.underlying211 szde (some ⟨r, 1 + c * 2, none⟩) (some ⟨r, 1, none⟩) (129 - c) (129 - c) m 129 rfl rfl
    r (1 + c * 2) (pgL XE.cells er sr [nr, pr]).toArray 132 HR.out.heap (flat XE.cells er) ?c2 (by omega) ?c3 ?c4 (flat_one _) ?_
  case c2 => rw [FT1.out]; show m * 2 = min m (129 - c) * 2; rw [Nat.min_eq_left (by omega)]
  case c3 => exact fun _ => ⟨rfl, _, rfl, fun j v h => by rw [add_mk]; exact (HR.out.cell _).trans (by have := pgL_src XE.cells 2 XE.two er sr [nr, pr] 0 er.length j v (by simpa using h); simpa using this)⟩
  case c4 => rw [FT1.out, List.size_toArray, HRL.out]; omega
  intro w2 HG2 HC2
  obtain ⟨L, hL⟩ : ∃ L, splice (pgL XE.cells er sr [nr, pr]) (1 + c * 2) (flat XE.cells er) = L := ⟨_, rfl⟩
  rw [List.toList_toArray, hL] at HG2
  have HLs := Lib.hid hL
  have HL2 := Lib.hid (show PageAt w2 l el sl nl pl from ⟨heap_chg (w := w.drew) HL.out.heap HC2.out hne, HL.out.room, HL.out.one⟩)
  have hLl := Lib.hid (show L.length = 261 by rw [← hL, length_splice _ _ _ (by rw [FT1.out, HRL.out]; omega)]; exact HRL.out)
  replace cr0 : w2.cell? ⟨r, 0, none⟩ = some (.int .i64 m) := by
    rw [cell_of_heap HG2.out, List.getElem?_toArray, ← hL, splice_low _ _ _ 0 (by omega) (by rw [HRL.out]; omega), HM.out]
    rfl
  replace fr0 : w2.frozen? ⟨r, 0, none⟩ = false := free_of_heap HG2.out 0
  have cl0 : w2.cell? ⟨l, 0, none⟩ = some (.int .i64 n) := by rw [HL2.out.cell, HN.out]; rfl
  have fl0 : w2.frozen? ⟨l, 0, none⟩ = false := HL2.out.free 0
  clear hL hs1 hs2
  have hw : IntKind.i64.wrap (↑n - ↑c) = (d : Int) := by rw [IntWalk.i64_in _ (by omega)]; omega
  have hs3 := run_cut_h (P := Tryd.prog) arrde szde r 1 c (by omega)
  have hs4 := run_cut_l (P := Tryd.prog) arrde szde l 1 d (by omega)
  go_wp2
  go_still_tail 15, (by kernel_rfl)
  change wpList _ _ _ _ _ w2.drew
  refine wpList_copy_rows rfl (.tmp 24) (.tmp 34) 211 211 rfl 129 2 Tryd.underlying211 szde (some ⟨r, 1, none⟩) (some ⟨l, 1 + d * 2, none⟩) c 129 (129 - d) (129 - d) rfl rfl
    r 1 L.toArray 132 HG2.out (flat XE.cells (el.drop d)) ?d2 (by omega) ?d3 ?d4 (flat_one _) ?_
  case d2 => rw [FT2.out]; show c * 2 = min (129 - d) c * 2; rw [Nat.min_eq_right (by omega)]
  case d3 => exact fun _ => ⟨rfl, _, rfl, fun j v h => by rw [add_mk]; exact (HL2.out.cell _).trans (pgL_src XE.cells 2 XE.two el sl [nl, pl] d el.length j v (by rw [List.take_of_length_le (by simp)]; exact h))⟩
  case d4 => rw [FT2.out, List.size_toArray, hLl.out]; omega
  intro w3 HG3 HC3
  obtain ⟨R, hR⟩ : ∃ R, splice L 1 (flat XE.cells (el.drop d)) = R := ⟨_, rfl⟩
  rw [List.toList_toArray, hR] at HG3
  have HRs := Lib.hid hR
  have HL3 := Lib.hid (show PageAt w3 l el sl nl pl from ⟨heap_chg (w := w2.drew) HL2.out.heap HC3.out hne, HL.out.room, HL.out.one⟩)
  replace cr0 : w3.cell? ⟨r, 0, none⟩ = some (.int .i64 m) := by
    rw [cell_of_heap HG3.out, List.getElem?_toArray, ← hR, splice_low _ _ _ 0 (by omega) (by rw [hLl.out]; omega), ← List.getElem?_toArray, ← cell_of_heap HG2.out]
    exact cr0
  replace fr0 : w3.frozen? ⟨r, 0, none⟩ = false := free_of_heap HG3.out 0
  replace cl0 : w3.cell? ⟨l, 0, none⟩ = some (.int .i64 n) := by rw [HL3.out.cell, HN.out]; rfl
  replace fl0 : w3.frozen? ⟨l, 0, none⟩ = false := HL3.out.free 0
  clear hR hs3 hs4 hw
  go_wp2
  go_end0
  have a1 := less_row XE.cells el sl [nl, pl] d (by rw [← HN.out]; exact hdn)
  have fd : (el.drop d).length = c := by rw [List.length_drop, ← HN.out]; omega
  have a2 := fore_row XE.cells 2 XE.two er (el.drop d) sr [nr, pr] (by rw [fd]; omega)
  rw [fd, HLs.out, HRs.out, ← HM.out] at a2
  refine ⟨rfl, ⟨flat XE.cells (el.drop d) ++ sl, ⟨?_, ?_, fun x hx => ?_⟩⟩, ⟨sr.drop (c * 2), ⟨?_, ?_, fun x hx => HR.out.one x (List.mem_of_mem_drop hx)⟩⟩, ?_⟩
  · rw [← a1]
    simp only [heap_setCell_ne _ _ _ _ _ hne, heap_setCell_at, HL3.out.heap, Option.map_some, updObj_cells, List.setIfInBounds_toArray]
    rw [show ((n : Int) - (c : Int)) = ((d : Nat) : Int) by omega]
  · rw [List.length_append, FT2.out, List.length_take, Nat.min_eq_left (by rw [← HN.out]; exact hdn)]
    omega
  · rcases List.mem_append.1 hx with h | h
    · exact flat_one _ x h
    · exact HL.out.one x h
  · rw [← a2]
    simp only [heap_setCell_ne _ _ _ _ _ hne', heap_setCell_at, HG3.out, Option.map_some, updObj_cells, List.setIfInBounds_toArray]
    rfl
  · rw [List.length_append, fd, List.length_drop, ← HM.out]
    omega
  · exact ((((Chg.refl _ _).drew.trans (HC2.out.mono fun b _ h => .inr h)).drew.trans (HC3.out.mono fun b _ h => .inr h)).setCell (.inl (.inr rfl)) _).setCell (.inl (.inl rfl)) _

end Go.Proofs.YtffgkocokkhahaaDoor

/- The root's neighbours; a page hung into the root; a new root. -/
namespace Go.Proofs.YtffgkocokkhahaaDoor
open Go.RowKit
variable {G : Value}

def pgPtr : Option Nat → Value
  | some b => .pointer (some ⟨b, 0, none⟩)
  | none => .pointer none
def sibL (all : List Nat) : Nat → Option Nat
  | 0 => none
  | j + 1 => all[j]?
def sibR (all : List Nat) (i : Nat) : Option Nat := all[i + 1]?

set_option maxRecDepth 100000 in
set_option maxHeartbeats 1000000 in
theorem siblings_none (w : World) : Calls Tryd.prog 102 #[.pointer none, .int .i64 (-1)] w fun x w' => x = .returned (.tuple #[.pointer none, .pointer none]) ∧ w = w' := by
  go_enter Tryd.func102, Tryd.ntmps102
  go_wp2
  go_ret2
  exact ⟨rfl, rfl⟩

set_option maxRecDepth 100000 in
set_option maxHeartbeats 1000000 in
theorem siblings_some (x b0 : Nat) (bs : List Nat) (rest : List Value) (i : Nat) (w : World) (hx : RootAt w x b0 bs rest) (hi : i ≤ bs.length) (hb : bs.length ≤ 257) :
    Calls Tryd.prog 102 #[.pointer (some ⟨x, 0, none⟩), .int .i64 i] w fun y w' => y = .returned (.tuple #[pgPtr (sibL (b0 :: bs) i), pgPtr (sibR (b0 :: bs) i)]) ∧ w = w' := by
  obtain ⟨n, hn⟩ : ∃ n, n = bs.length := ⟨_, rfl⟩
  have cx0 : w.cell? ⟨x, 0, none⟩ = some (.int .i64 n) := by rw [hx.cell, hn]; rfl
  have HX := Lib.hid hx
  rw [← hn] at hi hb
  have HN := Lib.hid hn
  clear hx hn
  have hr : i < n → ∃ b, (b0 :: bs)[i + 1]? = some b := fun h => ⟨bs[i]'(by rw [← HN.out]; exact h), by simp⟩
  have HR := Lib.hid hr
  clear hr
  have HRn := Lib.hid (show ¬ i < n → (b0 :: bs)[i + 1]? = none from fun h => List.getElem?_eq_none (by simp; rw [← HN.out]; omega))
  cases i with
  | zero =>
    by_cases hlt : 0 < n
    · obtain ⟨b, hbb⟩ := HR.out hlt
      have cb : w.cell? ⟨x, 3, none⟩ = some (.iface 123 (.pointer (some ⟨b, 0, none⟩))) := HX.out.ch hbb
      have e1 : pgPtr (sibL (b0 :: bs) 0) = .pointer none := rfl
      have e2 : pgPtr (sibR (b0 :: bs) 0) = .pointer (some ⟨b, 0, none⟩) := by unfold sibR; rw [hbb]; rfl
      rw [e1, e2]
      clear hbb e1 e2
      have hz : ((0 : Nat) : Int) = 0 := rfl
      rw [hz]
      have hlt' : (0 : Int) < n := by omega
      clear hz hlt
      go_enter Tryd.func102, Tryd.ntmps102
      go_wp2
      go_ret2
      exact ⟨rfl, rfl⟩
    · have e1 : pgPtr (sibL (b0 :: bs) 0) = .pointer none := rfl
      have e2 : pgPtr (sibR (b0 :: bs) 0) = .pointer none := by unfold sibR; rw [HRn.out hlt]; rfl
      rw [e1, e2]
      clear e1 e2
      obtain rfl : n = 0 := by omega
      have hz : ((0 : Nat) : Int) = 0 := rfl
      rw [hz] at cx0 ⊢
      clear hz hlt
      go_enter Tryd.func102, Tryd.ntmps102
      go_wp2
      go_ret2
      exact ⟨rfl, rfl⟩
  | succ j =>
    obtain ⟨a, ha⟩ : ∃ a, (b0 :: bs)[j]? = some a := ⟨_, List.getElem?_eq_getElem (by simp; rw [← HN.out]; omega)⟩
    have ca : w.cell? ⟨x, 1 + j * 2, none⟩ = some (.iface 123 (.pointer (some ⟨a, 0, none⟩))) := HX.out.ch ha
    have e1 : pgPtr (sibL (b0 :: bs) (j + 1)) = .pointer (some ⟨a, 0, none⟩) := by show pgPtr ((b0 :: bs)[j]?) = _; rw [ha]; rfl
    rw [e1]
    obtain ⟨k, hk⟩ : ∃ k, k = j + 1 := ⟨_, rfl⟩
    have hk0 : 0 < k := by omega
    have hw1 : IntKind.i64.wrap (↑k - 1) = (j : Int) := by rw [IntWalk.i64_in _ (by omega)]; omega
    have hw2 : ((k : Int) - 1) = (j : Int) := by omega
    rw [← hk] at hi HR HRn ⊢
    have hj1 : (j : Int) < 258 := by omega
    have hj2 : (0 : Int) ≤ j := by omega
    clear ha e1 hk
    by_cases hlt : k < n
    · obtain ⟨b, hbb⟩ := HR.out hlt
      have cb : w.cell? ⟨x, 1 + (k + 1) * 2, none⟩ = some (.iface 123 (.pointer (some ⟨b, 0, none⟩))) := HX.out.ch hbb
      have e2 : pgPtr (sibR (b0 :: bs) k) = .pointer (some ⟨b, 0, none⟩) := by unfold sibR; rw [hbb]; rfl
      rw [e2]
      clear hbb e2
      obtain ⟨m, hm⟩ : ∃ m, m = k + 1 := ⟨_, rfl⟩
      have hw3 : ((k : Int) + 1) = (m : Int) := by omega
      rw [← hm] at cb
      have hm1 : (m : Int) < 258 := by omega
      have hm2 : (0 : Int) ≤ m := by omega
      clear hm
      have hlt' : (k : Int) < n := by omega
      go_enter Tryd.func102, Tryd.ntmps102
      go_wp2
      go_ret2
      exact ⟨rfl, rfl⟩
    · have e2 : pgPtr (sibR (b0 :: bs) k) = .pointer none := by unfold sibR; rw [HRn.out hlt]; rfl
      rw [e2]
      clear e2
      obtain rfl : n = k := by omega
      go_enter Tryd.func102, Tryd.ntmps102
      go_wp2
      go_ret2
      exact ⟨rfl, rfl⟩

theorem szxe : (Tryd.prog.info? 134).map (·.size) = some 2 := by kernel_rfl
theorem arrxe : Tryd.prog.underlying 135 = some (.array 258 134) := by kernel_rfl

theorem set_mid {α : Type} (A R : List α) (o : Nat) (x v : α) (h : o = A.length) : (A ++ x :: R).set o v = A ++ v :: R := by
  subst h
  rw [List.set_append_right _ _ (Nat.le_refl _), Nat.sub_self]
  rfl

theorem hang_end (b0 r : Nat) (bs : List Nat) (rest : List Value) (hr : 2 ≤ rest.length) :
    (((xgL b0 bs rest).set 0 (.int .i64 (bs.length + 1 : Nat))).set (1 + bs.length * 2 + 1) (.pointer (some ⟨r, 0, none⟩))).set (1 + (bs.length + 1) * 2) (.iface 123 (.pointer (some ⟨r, 0, none⟩))) = xgL b0 (bs ++ [r]) (rest.drop 2) := by
  obtain ⟨x, y, T, rfl⟩ : ∃ x y T, rest = x :: y :: T := by
    match rest, hr with
    | x :: y :: T, _ => exact ⟨x, y, T, rfl⟩
  have hf : (flat dbl bs).length = bs.length * 2 := flat_length dbl 2 dbl_two bs
  unfold xgL
  rw [List.set_cons_zero]
  rw [show ∀ (a b : Value), a :: b :: (flat dbl bs ++ x :: y :: T) = (a :: b :: flat dbl bs) ++ x :: y :: T from fun _ _ => rfl, set_mid _ _ _ _ _ (by simp [hf]; omega)]
  rw [show ∀ (a b c : Value), (a :: b :: flat dbl bs) ++ c :: y :: T = (a :: b :: (flat dbl bs ++ [c])) ++ y :: T from fun _ _ _ => by simp, set_mid _ _ _ _ _ (by simp [hf]; omega)]
  simp [flat, dbl]

/-- What lies behind the i-th page. -/
theorem mid_cells (bs : List Nat) (i : Nat) (hi : i < bs.length) : ∃ (s last : Nat) (M : List Value), bs[i]? = some s ∧ (∀ b0, (b0 :: bs)[bs.length]? = some last) ∧ M.length = (bs.length - (i + 1)) * 2 ∧ (∀ x ∈ M, x.oneCell' = true) ∧
    flat dbl (bs.drop i) = .pointer (some ⟨s, 0, none⟩) :: (M ++ [.iface 123 (.pointer (some ⟨last, 0, none⟩))]) := by
  have hs : bs[i]? = some bs[i] := List.getElem?_eq_getElem hi
  obtain ⟨init, last, hl⟩ : ∃ init last, bs = init ++ [last] := by
    rcases List.eq_nil_or_concat bs with h | ⟨init, last, h⟩
    · subst h; simp at hi
    · exact ⟨init, last, by simpa using h⟩
  have hlast : ∀ b0, (b0 :: bs)[bs.length]? = some last := fun b0 => by
    subst hl
    simp
  have hc : flat dbl (bs.drop i) = .pointer (some ⟨bs[i], 0, none⟩) :: ((flat dbl (bs.drop i)).tail.dropLast ++ [.iface 123 (.pointer (some ⟨last, 0, none⟩))]) := by
    have h1 : flat dbl (bs.drop i) = .pointer (some ⟨bs[i], 0, none⟩) :: (flat dbl (bs.drop i)).tail := by
      rw [List.drop_eq_getElem_cons hi, flat_cons]
      rfl
    have h2 : (flat dbl (bs.drop i)).getLast? = some (.iface 123 (.pointer (some ⟨last, 0, none⟩))) := by
      have : bs.drop i = init.drop i ++ [last] := by
        subst hl
        rw [List.drop_append_of_le_length (by simp at hi; omega)]
      rw [this, flat_append]
      simp [flat, dbl]
    have h3 : (flat dbl (bs.drop i)).tail ≠ [] := by
      intro h
      have := congrArg List.length h
      rw [List.length_tail, flat_length dbl 2 dbl_two, List.length_drop] at this
      simp at this
      omega
    have h4 : (flat dbl (bs.drop i)).tail.getLast h3 = .iface 123 (.pointer (some ⟨last, 0, none⟩)) := by
      rw [h1, List.getLast?_cons, ] at h2
      rw [List.getLast_eq_iff_getLast?_eq_some]
      rw [List.getLast?_eq_some_getLast h3] at h2 ⊢
      simpa using h2
    conv => lhs; rw [h1, ← List.dropLast_concat_getLast h3, h4]
  refine ⟨bs[i], last, (flat dbl (bs.drop i)).tail.dropLast, hs, hlast, ?_, fun x hx => ?_, hc⟩
  · rw [List.length_dropLast, List.length_tail, flat_length dbl 2 dbl_two, List.length_drop]
    omega
  · have hx2 : x ∈ flat dbl (bs.drop i) := List.mem_of_mem_tail ((List.dropLast_sublist _).mem hx)
    unfold flat at hx2
    obtain ⟨b, _, hb⟩ := List.mem_flatMap.1 hx2
    simp [dbl] at hb
    rcases hb with rfl | rfl <;> rfl

def HangP (x b0 : Nat) (bs : List Nat) (rest : List Value) (w : World) (y : Ending) (w' : World) : Prop :=
  y = .returned (.pointer (some ⟨x, 0, none⟩)) ∧ RootAt w' x b0 bs rest ∧ Chg (fun b => b = x) w w'

set_option maxRecDepth 100000 in
set_option maxHeartbeats 1000000 in
theorem hang_last (x b0 r : Nat) (bs : List Nat) (rest : List Value) (w : World) (hx : RootAt w x b0 bs rest) (hb : bs.length ≤ 255) :
    Calls Tryd.prog 99 #[.pointer (some ⟨x, 0, none⟩), .int .i64 bs.length, .pointer (some ⟨r, 0, none⟩), .iface 123 (.pointer (some ⟨r, 0, none⟩))] w (HangP x b0 (bs ++ [r]) (rest.drop 2) w) := by
  obtain ⟨n, hn⟩ : ∃ n, n = bs.length := ⟨_, rfl⟩
  have hroom := hx.room
  have hlen : (xgL b0 bs rest).length = 517 := by rw [xgL_length]; omega
  have cx0 : w.cell? ⟨x, 0, none⟩ = some (.int .i64 n) := by rw [hx.cell, hn]; rfl
  have fx0 : w.frozen? ⟨x, 0, none⟩ = false := hx.free 0
  obtain ⟨k, hk⟩ : ∃ k, k = n + 1 := ⟨_, rfl⟩
  rw [← hn] at hb hroom ⊢
  obtain ⟨u1, cu1⟩ : ∃ u, w.cell? ⟨x, 1 + n * 2 + 1, none⟩ = some u := ⟨_, (hx.cell _).trans (List.getElem?_eq_getElem (by rw [hlen]; omega))⟩
  obtain ⟨u2, cu2⟩ : ∃ u, w.cell? ⟨x, 1 + k * 2, none⟩ = some u := ⟨_, (hx.cell _).trans (List.getElem?_eq_getElem (by rw [hlen]; omega))⟩
  have fu1 : w.frozen? ⟨x, 1 + n * 2 + 1, none⟩ = false := hx.free _
  have fu2 : w.frozen? ⟨x, 1 + k * 2, none⟩ = false := hx.free _
  have hw : ((n : Int) + 1) = (k : Int) := by omega
  have HX := Lib.hid hx
  have HN := Lib.hid hn
  have HK := Lib.hid hk
  have HR := Lib.hid (show 2 ≤ rest.length by omega)
  have HRm := Lib.hid hroom
  have k1 : (k : Int) < 258 := by omega
  have k2 : (n : Int) < 258 := by omega
  have k3 : (0 : Int) ≤ k := by omega
  have k4 : (0 : Int) ≤ n := by omega
  have n1 : ¬ (1 + n * 2 + 1 = 0) := by omega
  have n2 : ¬ (1 + k * 2 = 0) := by omega
  have n3 : ¬ (1 + k * 2 = 1 + n * 2 + 1) := by omega
  clear hx hn hk hlen hroom
  go_enter Tryd.func99, Tryd.ntmps99
  go_wp2
  go_ret
  have he := hang_end b0 r bs rest HR.out
  rw [← HN.out, ← HK.out] at he
  refine ⟨rfl, ⟨?_, ?_, fun v hv => HX.out.one v (List.mem_of_mem_drop hv)⟩, ?_⟩
  · rw [← he]
    simp only [heap_setCell_at, HX.out.heap, Option.map_some, updObj_cells, List.setIfInBounds_toArray]
  · rw [List.length_append, List.length_drop, ← HN.out]
    have := HRm.out
    have := HR.out
    simp
    omega
  · exact Chg.setCell (Chg.setCell (Chg.setCell (Chg.refl (fun b => b = x) w) (p := ⟨x, 0, none⟩) (.inl rfl) _) (p := ⟨x, _, none⟩) (.inl rfl) _) (p := ⟨x, _, none⟩) (.inl rfl) _

theorem sep_set {A B : List Value} {o : Nat} {x v : Value} (L : List Value) (h : L = A ++ x :: B) (ho : o = A.length) : L.set o v = A ++ v :: B := by
  subst h
  exact set_mid A B o x v ho

/-- The moves of an insertion within the root. -/
theorem hang_moves (H0 H1 b0 r : Nat) (A M R : List Value) (S h x1 c1 c2 : Value) (i c : Nat) (hA : A.length = 2 * i) (hM : M.length = (c - (i + 1)) * 2) (hi : i < c) :
    ∃ x0 x1', (((((splice ((.int .i64 H0 :: c1 :: (A ++ S :: (M ++ h :: x1 :: c2 :: R))).set (1 + (c + 1) * 2) h) (1 + (i + 2) * 2) M).set (1 + (i + 1) * 2 + 1) S).set 0 (.int .i64 H1)).set (1 + i * 2 + 1) (.pointer (some ⟨r, 0, none⟩))).set (1 + (i + 1) * 2) (.iface b0 (.pointer (some ⟨r, 0, none⟩)))) =
      .int .i64 H1 :: c1 :: (A ++ .pointer (some ⟨r, 0, none⟩) :: .iface b0 (.pointer (some ⟨r, 0, none⟩)) :: S :: (M ++ h :: R)) ∧
      ((((splice ((.int .i64 H0 :: c1 :: (A ++ S :: (M ++ h :: x1 :: c2 :: R))).set (1 + (c + 1) * 2) h) (1 + (i + 2) * 2) M).set (1 + (i + 1) * 2 + 1) S).set 0 (.int .i64 H1)).set (1 + i * 2 + 1) (.pointer (some ⟨r, 0, none⟩))) = .int .i64 H1 :: c1 :: (A ++ .pointer (some ⟨r, 0, none⟩) :: x0 :: x1' :: (M ++ h :: R)) := by
  have e1 : (.int .i64 H0 :: c1 :: (A ++ S :: (M ++ h :: x1 :: c2 :: R))).set (1 + (c + 1) * 2) h = .int .i64 H0 :: c1 :: (A ++ S :: (M ++ h :: x1 :: h :: R)) := by
    refine (sep_set _ (A := .int .i64 H0 :: c1 :: (A ++ S :: (M ++ [h, x1]))) (B := R) (x := c2) (by simp) (by simp [hA, hM]; omega)).trans (by simp)
  rw [e1]
  obtain ⟨x0, x1', Y, hY⟩ : ∃ x0 x1' Y, M ++ [h, x1] = x0 :: x1' :: Y := by
    match hm : M ++ [h, x1] with
    | x0 :: x1' :: Y => exact ⟨x0, x1', Y, rfl⟩
    | [_] => have := congrArg List.length hm; simp at this
    | [] => have := congrArg List.length hm; simp at this
  have hYl : Y.length = M.length := by have := congrArg List.length hY; simp at this; omega
  have e2 : splice (.int .i64 H0 :: c1 :: (A ++ S :: (M ++ h :: x1 :: h :: R))) (1 + (i + 2) * 2) M = .int .i64 H0 :: c1 :: (A ++ S :: x0 :: x1' :: (M ++ h :: R)) := by
    rw [show (Value.int .i64 H0 :: c1 :: (A ++ S :: (M ++ h :: x1 :: h :: R))) = (.int .i64 H0 :: c1 :: (A ++ [S, x0, x1'])) ++ (Y ++ (h :: R)) by
      have : M ++ h :: x1 :: h :: R = (M ++ [h, x1]) ++ h :: R := by simp
      rw [this, hY]
      simp]
    rw [splice_mid _ _ _ M _ (by simp [hA]; omega) (by omega)]
    simp
  rw [e2]
  have e3 : (Value.int .i64 H0 :: c1 :: (A ++ S :: x0 :: x1' :: (M ++ h :: R))).set (1 + (i + 1) * 2 + 1) S = .int .i64 H0 :: c1 :: (A ++ S :: x0 :: S :: (M ++ h :: R)) :=
    (sep_set _ (A := .int .i64 H0 :: c1 :: (A ++ [S, x0])) (B := M ++ h :: R) (x := x1') (by simp) (by simp [hA]; omega)).trans (by simp)
  rw [e3, List.set_cons_zero]
  have e5 : (Value.int .i64 H1 :: c1 :: (A ++ S :: x0 :: S :: (M ++ h :: R))).set (1 + i * 2 + 1) (.pointer (some ⟨r, 0, none⟩)) = .int .i64 H1 :: c1 :: (A ++ .pointer (some ⟨r, 0, none⟩) :: x0 :: S :: (M ++ h :: R)) :=
    (sep_set _ (A := .int .i64 H1 :: c1 :: A) (B := x0 :: S :: (M ++ h :: R)) (x := S) (by simp) (by simp [hA]; omega)).trans (by simp)
  rw [e5]
  have e6 : (Value.int .i64 H1 :: c1 :: (A ++ .pointer (some ⟨r, 0, none⟩) :: x0 :: S :: (M ++ h :: R))).set (1 + (i + 1) * 2) (.iface b0 (.pointer (some ⟨r, 0, none⟩))) = .int .i64 H1 :: c1 :: (A ++ .pointer (some ⟨r, 0, none⟩) :: .iface b0 (.pointer (some ⟨r, 0, none⟩)) :: S :: (M ++ h :: R)) :=
    (sep_set _ (A := .int .i64 H1 :: c1 :: (A ++ [.pointer (some ⟨r, 0, none⟩)])) (B := S :: (M ++ h :: R)) (x := x0) (by simp) (by simp [hA]; omega)).trans (by simp)
  rw [e6]
  exact ⟨x0, S, rfl, rfl⟩

set_option maxRecDepth 100000 in
set_option maxHeartbeats 1000000 in
theorem hang_mid (x b0 r : Nat) (bs : List Nat) (rest : List Value) (i : Nat) (w : World) (hx : RootAt w x b0 bs rest) (hi : i < bs.length) (hb : bs.length ≤ 255) :
    Calls Tryd.prog 99 #[.pointer (some ⟨x, 0, none⟩), .int .i64 i, .pointer (some ⟨r, 0, none⟩), .iface 123 (.pointer (some ⟨r, 0, none⟩))] w (HangP x b0 (bs.take i ++ r :: bs.drop i) (rest.drop 2) w) := by
  obtain ⟨n, hn⟩ : ∃ n, n = bs.length := ⟨_, rfl⟩
  have hroom := hx.room
  obtain ⟨s, last, M, hs, hlast, hM, hM1, hcells⟩ := mid_cells bs i hi
  obtain ⟨x1, c2, R, hrest⟩ : ∃ x1 c2 R, rest = x1 :: c2 :: R := by
    match rest, hroom with
    | x1 :: c2 :: R, _ => exact ⟨x1, c2, R, rfl⟩
    | [_], h => simp at h; omega
    | [], h => simp at h; omega
  obtain ⟨A, hA⟩ : ∃ A, A = flat dbl (bs.take i) := ⟨_, rfl⟩
  have hAl : A.length = 2 * i := by rw [hA, flat_length dbl 2 dbl_two, List.length_take, Nat.min_eq_left (Nat.le_of_lt hi)]; omega
  obtain ⟨L0, hL0⟩ : ∃ L0, L0 = xgL b0 bs rest := ⟨_, rfl⟩
  have hform : L0 = .int .i64 n :: .iface 123 (.pointer (some ⟨b0, 0, none⟩)) :: (A ++ .pointer (some ⟨s, 0, none⟩) :: (M ++ .iface 123 (.pointer (some ⟨last, 0, none⟩)) :: x1 :: c2 :: R)) := by
    rw [hL0, hA, hn]
    unfold xgL
    have : flat dbl bs = flat dbl (bs.take i) ++ flat dbl (bs.drop i) := by rw [← flat_append, List.take_append_drop]
    rw [this, hcells, hrest]
    simp
  have hlen : L0.length = 517 := by rw [hL0, xgL_length]; omega
  have hh : w.heap[x]? = some (.cells L0.toArray 137 (0, 0)) := by rw [hL0]; exact hx.heap
  have hout : xgL b0 (bs.take i ++ r :: bs.drop i) (rest.drop 2) = .int .i64 (n + 1 : Nat) :: .iface 123 (.pointer (some ⟨b0, 0, none⟩)) :: (A ++ .pointer (some ⟨r, 0, none⟩) :: .iface 123 (.pointer (some ⟨r, 0, none⟩)) :: .pointer (some ⟨s, 0, none⟩) :: (M ++ .iface 123 (.pointer (some ⟨last, 0, none⟩)) :: R)) := by
    unfold xgL
    rw [flat_append, flat_cons, hcells, ← hA, hrest, show (bs.take i ++ r :: bs.drop i).length = n + 1 by simp [List.length_take]; omega]
    simp [dbl]
  have cx0 : w.cell? ⟨x, 0, none⟩ = some (.int .i64 n) := by rw [hx.cell, hn]; rfl
  have ch0 : w.cell? ⟨x, 1 + n * 2, none⟩ = some (.iface 123 (.pointer (some ⟨last, 0, none⟩))) := by rw [hn]; exact hx.ch (hlast b0)
  have HONE := Lib.hid hx.one
  rw [← hn] at hi hb hroom hM
  obtain ⟨k, hk⟩ : ∃ k, k = n + 1 := ⟨_, rfl⟩
  obtain ⟨i1, hi1⟩ : ∃ i1, i1 = i + 1 := ⟨_, rfl⟩
  obtain ⟨i2, hi2⟩ : ∃ i2, i2 = i + 2 := ⟨_, rfl⟩
  obtain ⟨u1, cu1⟩ : ∃ u, w.cell? ⟨x, 1 + k * 2, none⟩ = some u := ⟨L0[1 + k * 2]'(by rw [hlen]; omega), by rw [cell_of_heap hh, List.getElem?_toArray]; exact List.getElem?_eq_getElem _⟩
  have fu1 : w.frozen? ⟨x, 1 + k * 2, none⟩ = false := free_of_heap hh _
  have hw1 : ((n : Int) + 1) = (k : Int) := by omega
  have hwi1 : ((i : Int) + 1) = (i1 : Int) := by omega
  have hwa : IntKind.i64.wrap (i1 : Int) = (i1 : Int) := IntWalk.i64_in _ (by omega)
  have hwb : IntKind.i64.wrap (↑i + 2) = (i2 : Int) := by rw [IntWalk.i64_in _ (by omega)]; omega
  have hwc : IntKind.i64.wrap (k : Int) = (k : Int) := IntWalk.i64_in _ (by omega)
  have k1 : (k : Int) < 258 := by omega
  have k2 : (n : Int) < 258 := by omega
  have k3 : (0 : Int) ≤ k := by omega
  have k4 : (0 : Int) ≤ n := by omega
  have k5 : (i : Int) < n := by omega
  have k6 : (i : Int) < 258 := by omega
  have k7 : (i1 : Int) < 258 := by omega
  have k8 : (0 : Int) ≤ i := by omega
  have k9 : (0 : Int) ≤ i1 := by omega
  have HX := Lib.hid hx
  have HH := Lib.hid hh
  have HF := Lib.hid hform
  have HLN := Lib.hid hlen
  have HO := Lib.hid hout
  have HN := Lib.hid hn
  have HK := Lib.hid hk
  have HI1 := Lib.hid hi1
  have HI2 := Lib.hid hi2
  have HM := Lib.hid hM
  have HM1 := Lib.hid hM1
  have HAl := Lib.hid hAl
  have HRm := Lib.hid hroom
  clear hx hh hform hlen hout hn hk hi1 hi2 hM hM1 hAl hroom hrest hcells hA hL0 hs hlast
  go_enter Tryd.func99, Tryd.ntmps99
  go_wp2
  go_still_tail 14, (by kernel_rfl)
  change wpList _ _ _ _ _ w.drew
  go_wp2
  obtain ⟨w1, hw1d⟩ : ∃ w1, w1 = (w.setCell ⟨x, 1 + k * 2, none⟩ (.iface 123 (.pointer (some ⟨last, 0, none⟩)))).drew := ⟨_, rfl⟩
  rw [← hw1d]
  obtain ⟨L1, hL1⟩ : ∃ L1, L1 = L0.set (1 + k * 2) (.iface 123 (.pointer (some ⟨last, 0, none⟩))) := ⟨_, rfl⟩
  have HH1 := Lib.hid (show w1.heap[x]? = some (.cells L1.toArray 137 (0, 0)) by
    rw [hw1d, heap_drew, heap_setCell_at, HH.out, hL1]
    simp [updObj_cells])
  have HC1 := Lib.hid (show Chg (fun b => b = x) w w1 by rw [hw1d]; exact (Chg.setCell (Chg.refl (fun b => b = x) w) (p := ⟨x, _, none⟩) (.inl rfl) _).drew)
  have hL1len : L1.length = 517 := by rw [hL1, List.length_set]; exact HLN.out
  have hL1f : L1 = .int .i64 n :: .iface 123 (.pointer (some ⟨b0, 0, none⟩)) :: (A ++ .pointer (some ⟨s, 0, none⟩) :: (M ++ .iface 123 (.pointer (some ⟨last, 0, none⟩)) :: x1 :: .iface 123 (.pointer (some ⟨last, 0, none⟩)) :: R)) := by
    rw [hL1, HF.out]
    have hm := HM.out
    have ha := HAl.out
    have hk := HK.out
    refine (sep_set _ (A := .int .i64 n :: .iface 123 (.pointer (some ⟨b0, 0, none⟩)) :: (A ++ .pointer (some ⟨s, 0, none⟩) :: (M ++ [.iface 123 (.pointer (some ⟨last, 0, none⟩)), x1]))) (B := R) (x := c2) (by simp) (by simp [ha, hm]; omega)).trans (by simp)
  have HL1 := Lib.hid hL1
  have HL1n := Lib.hid hL1len
  have HL1f := Lib.hid hL1f
  clear hw1d hL1 hL1len hL1f cx0 ch0 cu1 fu1
  have hi2' := HI2.out
  have hi1' := HI1.out
  have hs1 := run_cut_l (P := Tryd.prog) arrxe szxe x 1 i2 (by omega)
  have hs2 := run_cut_lh (P := Tryd.prog) arrxe szxe x 1 i1 n (by omega) (by omega) (by omega)
  clear hi2' hi1'
  go_still_tail 13, (by kernel_rfl)
  change wpList _ _ _ _ _ w1.drew
  refine wpList_copy_rows rfl (.tmp 36) (.tmp 43) 207 207 rfl 134 2 Tryd.underlying207 szxe (some ⟨x, 1 + i2 * 2, none⟩) (some ⟨x, 1 + i1 * 2, none⟩) (258 - i2) (258 - i2) (n - i1) (258 - i1) rfl rfl
    x (1 + i2 * 2) L1.toArray 137 HH1.out M ?c2 (by omega) ?c3 ?c4 HM1.out ?_
  case c2 =>
    have := HI1.out
    have := HI2.out
    rw [HM.out]
    show (n - (i + 1)) * 2 = min (n - i1) (258 - i2) * 2
    rw [Nat.min_eq_left (by omega)]
    omega
  case c3 =>
    refine fun _ => ⟨rfl, _, rfl, fun j v h => ?_⟩
    rw [add_mk]
    show w1.cell? ⟨x, 1 + i1 * 2 + j, none⟩ = some v
    rw [cell_of_heap HH1.out, List.getElem?_toArray, HL1f.out]
    have := mid_at (.int .i64 n :: .iface 123 (.pointer (some ⟨b0, 0, none⟩)) :: (A ++ [.pointer (some ⟨s, 0, none⟩)])) M (.iface 123 (.pointer (some ⟨last, 0, none⟩)) :: x1 :: .iface 123 (.pointer (some ⟨last, 0, none⟩)) :: R) (1 + i1 * 2) j v (by
      have := HAl.out
      have := HI1.out
      simp
      omega) h
    simpa using this
  case c4 =>
    have := HI2.out
    rw [HM.out, List.size_toArray, HL1n.out]
    omega
  intro w2 HG2 HC2
  obtain ⟨L2, hL2⟩ : ∃ L2, splice L1 (1 + i2 * 2) M = L2 := ⟨_, rfl⟩
  rw [List.toList_toArray, hL2] at HG2
  have HL2 := Lib.hid hL2
  have hL2n : L2.length = 517 := by
    have := HI2.out
    rw [← hL2, length_splice _ _ _ (by rw [HM.out, HL1n.out]; omega)]
    exact HL1n.out
  have HL2n := Lib.hid hL2n
  have cs : w2.cell? ⟨x, 1 + i * 2 + 1, none⟩ = some (.pointer (some ⟨s, 0, none⟩)) := by
    have := HI2.out
    rw [cell_of_heap HG2.out, List.getElem?_toArray, ← hL2, splice_low _ _ _ _ (by omega) (by rw [HL1n.out]; omega), HL1f.out]
    have := mid_at (.int .i64 n :: .iface 123 (.pointer (some ⟨b0, 0, none⟩)) :: A) [.pointer (some ⟨s, 0, none⟩)] (M ++ .iface 123 (.pointer (some ⟨last, 0, none⟩)) :: x1 :: .iface 123 (.pointer (some ⟨last, 0, none⟩)) :: R) (1 + i * 2 + 1) 0 _ (by
      have := HAl.out
      simp
      omega) rfl
    simpa using this
  obtain ⟨u2, cu2⟩ : ∃ u, w2.cell? ⟨x, 1 + i1 * 2 + 1, none⟩ = some u := ⟨L2[1 + i1 * 2 + 1]'(by have := HI1.out; rw [hL2n]; omega), by rw [cell_of_heap HG2.out, List.getElem?_toArray]; exact List.getElem?_eq_getElem _⟩
  have fu2 : w2.frozen? ⟨x, 1 + i1 * 2 + 1, none⟩ = false := free_of_heap HG2.out _
  obtain ⟨v0, cv0⟩ : ∃ u, w2.cell? ⟨x, 0, none⟩ = some u := ⟨L2[0]'(by rw [hL2n]; omega), by rw [cell_of_heap HG2.out, List.getElem?_toArray]; exact List.getElem?_eq_getElem _⟩
  obtain ⟨v2, cv2⟩ : ∃ u, w2.cell? ⟨x, 1 + i1 * 2, none⟩ = some u := ⟨L2[1 + i1 * 2]'(by have := HI1.out; rw [hL2n]; omega), by rw [cell_of_heap HG2.out, List.getElem?_toArray]; exact List.getElem?_eq_getElem _⟩
  have fv0 : w2.frozen? ⟨x, 0, none⟩ = false := free_of_heap HG2.out _
  have fv1 : w2.frozen? ⟨x, 1 + i * 2 + 1, none⟩ = false := free_of_heap HG2.out _
  have fv2 : w2.frozen? ⟨x, 1 + i1 * 2, none⟩ = false := free_of_heap HG2.out _
  have hi1' := HI1.out
  have n1 : ¬ (1 + i1 * 2 + 1 = 0) := by omega
  have n2 : ¬ (0 = 1 + i1 * 2 + 1) := by omega
  have n3 : ¬ (1 + i * 2 + 1 = 1 + i1 * 2 + 1) := by omega
  have n4 : ¬ (1 + i * 2 + 1 = 0) := by omega
  have n5 : ¬ (1 + i1 * 2 = 1 + i1 * 2 + 1) := by omega
  have n6 : ¬ (1 + i1 * 2 = 0) := by omega
  have n7 : ¬ (1 + i1 * 2 = 1 + i * 2 + 1) := by omega
  clear hL2 hL2n hs1 hs2 hi1'
  go_wp2
  go_still_tail 14, (by kernel_rfl)
  change wpList _ _ _ _ _ w2.drew
  go_wp2
  go_ret
  have hout := HO.out
  have hn := HN.out
  have hk := HK.out
  have hi1' := HI1.out
  have hi2' := HI2.out
  obtain ⟨x0, x1', e1, _⟩ := hang_moves n (n + 1 : Nat) 123 r A M R (.pointer (some ⟨s, 0, none⟩)) (.iface 123 (.pointer (some ⟨last, 0, none⟩))) x1 (.iface 123 (.pointer (some ⟨b0, 0, none⟩))) c2 i n HAl.out HM.out (by omega)
  rw [← HF.out, ← hk, ← hi2', ← HL1.out, HL2.out, ← hi1', hk, ← hout] at e1
  refine ⟨rfl, ⟨?_, ?_, fun v hv => HONE.out v (List.mem_of_mem_drop hv)⟩, ?_⟩
  · rw [← e1]
    simp only [heap_drew, heap_setCell_at, HG2.out, Option.map_some, updObj_cells, List.setIfInBounds_toArray]
    rw [← hk]
  · have := HRm.out
    simp [List.length_take]
    omega
  · exact (HC1.out.drew.trans HC2.out).trans (Chg.setCell (Chg.setCell (Chg.setCell (Chg.setCell (Chg.refl (fun b => b = x) w2) (p := ⟨x, _, none⟩) (.inl rfl) _).drew (p := ⟨x, _, none⟩) (.inl rfl) _) (p := ⟨x, _, none⟩) (.inl rfl) _) (p := ⟨x, _, none⟩) (.inl rfl) _)

theorem hang_any (x b0 r : Nat) (bs : List Nat) (rest : List Value) (i : Nat) (w : World) (hx : RootAt w x b0 bs rest) (hi : i ≤ bs.length) (hb : bs.length ≤ 255) :
    Calls Tryd.prog 99 #[.pointer (some ⟨x, 0, none⟩), .int .i64 i, .pointer (some ⟨r, 0, none⟩), .iface 123 (.pointer (some ⟨r, 0, none⟩))] w (HangP x b0 (bs.take i ++ r :: bs.drop i) (rest.drop 2) w) := by
  rcases Nat.lt_or_ge i bs.length with h | h
  · exact hang_mid x b0 r bs rest i w hx h hb
  · obtain rfl : i = bs.length := by omega
    rw [List.take_length, List.drop_length]
    exact hang_last x b0 r bs rest w hx hb

/-- A root's memory before anything hangs there. -/
def zrest : List Value := .pointer none :: (List.replicate 257 [Value.nilIface, .pointer none]).flatten
def zx : Array Value := (.int .i64 0 :: .nilIface :: zrest).toArray
theorem zx_eq : Tryd.zeroCells137 = zx := by kernel_rfl
theorem zrest_len : zrest.length = 515 := by decide +kernel
theorem zrest_one : ∀ v ∈ zrest, v.oneCell' = true := by
  intro v hv
  unfold zrest at hv
  rcases List.mem_cons.1 hv with rfl | hv
  · rfl
  · obtain ⟨l, hl, hv⟩ := List.mem_flatten.1 hv
    obtain rfl := (List.mem_replicate.1 hl).2
    simp at hv
    rcases hv with rfl | rfl <;> rfl

def NewXP (b0 : Nat) (w : World) (y : Ending) (w' : World) : Prop := y = .returned (.pointer (some ⟨w.heap.size, 0, none⟩)) ∧ RootAt w' w.heap.size b0 [] zrest ∧ w'.heap.size = w.heap.size + 1 ∧ Below w.heap.size w w'

set_option maxRecDepth 100000 in
set_option maxHeartbeats 1000000 in
theorem newX_any (b0 : Nat) (w : World) : Calls Tryd.prog 100 #[.iface 123 (.pointer (some ⟨b0, 0, none⟩))] w (NewXP b0 w) := by
  go_enter Tryd.func100, Tryd.ntmps100
  go_wp2
  go_ret
  refine ⟨rfl, ⟨?_, ?_, zrest_one⟩, by simp, (Below.refl _ _).alloc (Nat.le_refl _) _⟩
  · rw [heap_new, zx_eq]
    unfold zx xgL
    rw [List.setIfInBounds_toArray]
    rfl
  · rw [zrest_len]
    rfl

end Go.Proofs.YtffgkocokkhahaaDoor
