/-
  (*tree).split: a full page becomes two. PRINTED BY wip/tpl/gen_yw.py.
-/
import Derived.Test.YtffgkocokkhahaaDoorTp13
import Derived.Deep.RegionWith

/- (*tree).split: a full page becomes two. PRINTED BY wip/tpl/gen_yw.py. -/
namespace Go.Proofs.YtffgkocokkhahaaDoor
open Go.RowKit
variable {G : Value}

set_option maxHeartbeats 1000000 in
theorem zde_any (w : World) : Calls Tryd.prog 108 #[] w fun e w' => e = .returned (.agg #[.slice none 0 0, .slice none 0 0]) ∧ Below w.heap.size w w' := by
  go_enter Tryd.func108, Tryd.ntmps108
  go_wp2
  exact bodyPost_ret (v := .agg #[.slice none 0 0, .slice none 0 0]) (by simp [results, go_sem]) rfl ⟨rfl, (Below.refl _ _).alloc (Nat.le_refl _) _⟩

/-- An empty page's room. -/
def zroom : List Value := (List.replicate 129 [Value.slice none 0 0, .slice none 0 0]).flatten
theorem zd_eq : Tryd.zeroCells132 = (pgL XE.cells [] zroom [.pointer none, .pointer none]).toArray := by kernel_rfl
theorem zroom_len : zroom.length = 258 := by decide +kernel
theorem zroom_one : ∀ v ∈ zroom, v.oneCell' = true := by
  intro v hv
  unfold zroom at hv
  obtain ⟨l, hl, hv⟩ := List.mem_flatten.1 hv
  obtain rfl := (List.mem_replicate.1 hl).2
  simp at hv
  subst hv
  rfl

theorem pg_tail (es : List XE) (rest : List Value) (a b v : Value) (h : es.length * 2 + rest.length = 258) : (pgL XE.cells es rest [a, b]).set 259 v = pgL XE.cells es rest [v, b] := by
  unfold pgL
  refine (sep_set _ (A := .int .i64 es.length :: (flat XE.cells es ++ rest)) (B := [b]) (x := a) (by simp) (by simp [flat_len]; omega)).trans (by simp)
theorem pg_tail2 (es : List XE) (rest : List Value) (a b v : Value) (h : es.length * 2 + rest.length = 258) : (pgL XE.cells es rest [a, b]).set 260 v = pgL XE.cells es rest [a, v] := by
  unfold pgL
  refine (sep_set _ (A := .int .i64 es.length :: (flat XE.cells es ++ (rest ++ [a]))) (B := []) (x := b) (by simp) (by simp [flat_len]; omega)).trans (by simp)

theorem set_in (A rr T : List Value) (o : Nat) (v : Value) (h1 : A.length ≤ o) (h2 : o < A.length + rr.length) : (A ++ (rr ++ T)).set o v = A ++ (rr.set (o - A.length) v ++ T) := by
  rw [List.set_append_right _ _ h1, List.set_append_left _ _ (by omega)]

/-- Two cells of the room are emptied. -/
theorem room_set {A rr T : List Value} {o : Nat} (a b : Value) (hA : A.length ≤ o) (hr : o + 1 < A.length + rr.length) (ha : a.oneCell' = true) (hb : b.oneCell' = true) (ho : ∀ v ∈ rr, v.oneCell' = true) :
    ∃ rr' : List Value, rr'.length = rr.length ∧ (∀ v ∈ rr', v.oneCell' = true) ∧ ((A ++ (rr ++ T)).set o a).set (o + 1) b = A ++ (rr' ++ T) := by
  refine ⟨(rr.set (o - A.length) a).set (o + 1 - A.length) b, by simp, fun v hv => ?_, ?_⟩
  · rcases List.mem_or_eq_of_mem_set hv with hv | rfl
    · rcases List.mem_or_eq_of_mem_set hv with hv | rfl
      · exact ho v hv
      · exact ha
    · exact hb
  · rw [set_in A rr T o a hA (by omega), set_in A _ T (o + 1) b (by omega) (by simp; omega)]

theorem newX_at (b0 : Nat) (w : World) (n : Nat) (hn : w.heap.size = n) : Calls Tryd.prog 100 #[.iface 123 (.pointer (some ⟨b0, 0, none⟩))] w
    fun y w' => y = .returned (.pointer (some ⟨n, 0, none⟩)) ∧ RootAt w' n b0 [] zrest ∧ Below w.heap.size w w' := by
  subst hn
  exact (newX_any b0 w).mono fun _ _ ⟨h1, h2, _, h4⟩ => ⟨h1, h2, h4⟩

theorem hang0 (x b0 r : Nat) (w : World) (hx : RootAt w x b0 [] zrest) :
    Calls Tryd.prog 99 #[.pointer (some ⟨x, 0, none⟩), .int .i64 0, .pointer (some ⟨r, 0, none⟩), .iface 123 (.pointer (some ⟨r, 0, none⟩))] w (HangP x b0 [r] (zrest.drop 2) w) :=
  hang_any x b0 r [] zrest 0 w hx (Nat.le_refl _) (by simp)

/-- Two pages for one. -/
structure Halves (G : Value) (w w' : World) (t q : Nat) (es : List XE) (i : Nat) (e : XE) (nx pv : Value) (c : Int) (fi : Value) (rb : Nat) (la r : Value) : Prop where
  new : w.heap.size ≤ rb
  tree : ∃ ver, TreeW G w' t (c + 1) fi la r ver
  pages : ∃ l1 l2 r1 r2, l1 ++ l2 = es.take i ++ e :: es.drop i ∧ 64 ≤ l1.length ∧ l1.length ≤ 65 ∧ 64 ≤ l2.length ∧ l2.length ≤ 65 ∧ PageAt w' q l1 r1 (.pointer (some ⟨rb, 0, none⟩)) pv ∧ PageAt w' rb l2 r2 nx (.pointer (some ⟨q, 0, none⟩))

theorem halves_behind {es : List XE} {i j : Nat} {e : XE} (hj : i = 64 + j) (hi : i ≤ es.length) : es.take 64 ++ ((es.drop 64).take j ++ e :: (es.drop 64).drop j) = es.take i ++ e :: es.drop i := by
  subst hj
  rw [List.drop_drop, ← List.append_assoc, ← List.take_add]
theorem halves_ahead {es : List XE} {i : Nat} {e : XE} (hi : i ≤ 64) : (es.take 64).take i ++ e :: (es.take 64).drop i ++ es.drop 64 = es.take i ++ e :: es.drop i := by
  rw [List.take_take, Nat.min_eq_left hi, List.append_assoc, List.cons_append]
  congr 2
  have : es.drop i = (es.take 64).drop i ++ es.drop 64 := by
    conv => lhs; rw [← List.take_append_drop 64 es]
    rw [List.drop_append]
    congr 1
    rcases Nat.lt_or_ge es.length 64 with h | h
    · rw [List.drop_of_length_le (l := es) (i := 64) (by omega)]
      simp
    · rw [List.length_take, Nat.min_eq_left h, show i - 64 = 0 by omega]
      rfl
  exact this.symm

def SplitLeafP (G : Value) (t q : Nat) (es : List XE) (i : Nat) (e : XE) (pv : Value) (c : Int) (fi : Value) (w : World) (y : Ending) (w' : World) : Prop :=
  y = .returned (.tuple #[]) ∧ ∃ rb xb xr, Halves G w w' t q es i e (.pointer none) pv c fi rb (.pointer (some ⟨rb, 0, none⟩)) (.iface 126 (.pointer (some ⟨xb, 0, none⟩))) ∧ RootAt w' xb q [rb] xr ∧ w.heap.size ≤ xb ∧ ¬ xb = rb ∧ Chg (fun b => b = t ∨ b = q) w w'
def SplitRootP (G : Value) (t q x b0 : Nat) (bs : List Nat) (pi : Nat) (es : List XE) (i : Nat) (e : XE) (pv : Value) (c : Int) (fi r : Value) (w : World) (y : Ending) (w' : World) : Prop :=
  y = .returned (.tuple #[]) ∧ ∃ rb xr, Halves G w w' t q es i e (.pointer none) pv c fi rb (.pointer (some ⟨rb, 0, none⟩)) r ∧ RootAt w' x b0 (bs.take pi ++ rb :: bs.drop pi) xr ∧ Chg (fun b => (b = t ∨ b = q) ∨ b = x) w w'
def SplitNextP (G : Value) (t q x b0 : Nat) (bs : List Nat) (pi nb : Nat) (ns : List XE) (nrest : List Value) (nnx : Value) (es : List XE) (i : Nat) (e : XE) (pv : Value) (c : Int) (fi la r : Value) (w : World) (y : Ending) (w' : World) : Prop :=
  y = .returned (.tuple #[]) ∧ ∃ rb xr, Halves G w w' t q es i e (.pointer (some ⟨nb, 0, none⟩)) pv c fi rb la r ∧ RootAt w' x b0 (bs.take pi ++ rb :: bs.drop pi) xr ∧ PageAt w' nb ns nrest nnx (.pointer (some ⟨rb, 0, none⟩)) ∧ Chg (fun b => (b = t ∨ b = q ∨ b = nb) ∨ b = x) w w'
set_option maxRecDepth 100000 in
set_option maxHeartbeats 2000000 in
theorem split_leaf (t q : Nat) (i : Nat) (es : List XE) (rest : List Value) (pv : Value) (e : XE) (c : Int) (fi la r : Value) (ver : Int) (w : World)
    (hq : PageAt w q es rest (.pointer none) pv) (ht : TreeW G w t c fi la r ver) (hne : ¬ t = q) (hi : i ≤ 128) (hl : es.length = 128) (c0 : 0 ≤ c) (c1 : c ≤ 2147483646) :
    Calls Tryd.prog 105 #[.pointer (some ⟨t, 0, none⟩), .pointer none, .pointer (some ⟨q, 0, none⟩), .int .i64 (-1), .int .i64 i, .slice e.A e.m e.p, .slice e.B e.n e.q] w (SplitLeafP G t q es i e pv c fi w) := by
  have ct4 : w.cell? ⟨t, 5, none⟩ = some (.int .i64 ver) := cell_of_heap ht 5
  have ct2 : w.cell? ⟨t, 3, none⟩ = some la := cell_of_heap ht 3
  have ft4 : w.frozen? ⟨t, 5, none⟩ = false := free_of_heap ht 5
  have ft2 : w.frozen? ⟨t, 3, none⟩ = false := free_of_heap ht 3
  have lt := lt_of_heap ht
  have lq := hq.lt
  have hroom := hq.room
  have cn : w.cell? ⟨q, 259, none⟩ = some (.pointer none) := by rw [hq.cell, pgL_tail XE.cells 2 XE.two es rest _ 259 0 (by omega)]; rfl
  have cp : w.cell? ⟨q, 260, none⟩ = some pv := by rw [hq.cell, pgL_tail XE.cells 2 XE.two es rest _ 260 1 (by omega)]; rfl
  have fn : w.frozen? ⟨q, 259, none⟩ = false := hq.free _
  have hne' : ¬ q = t := fun h => hne h.symm
  have HQ := Lib.hid hq
  have HT := Lib.hid ht
  have HL := Lib.hid hl
  clear hq ht hl hroom
  go_enter Tryd.func105, Tryd.ntmps105
  go_wp2
  obtain ⟨rb, hrb⟩ : ∃ rb, rb = w.heap.size := ⟨_, rfl⟩
  rw [← hrb]
  obtain ⟨w1, hw1⟩ : ∃ w1, w1 = ((((w.setCell ⟨t, 5, none⟩ (.int .i64 (wrap64 (ver + 1)))).setCell ⟨t, 3, none⟩ (.pointer (some ⟨rb, 0, none⟩))).setCell ⟨q, 259, none⟩ (.pointer (some ⟨rb, 0, none⟩)))).alloc (.cells (Tryd.zeroCells132.setIfInBounds 260 (.pointer (some ⟨q, 0, none⟩))) 132) := ⟨_, rfl⟩
  rw [← hw1]
  have hsz : (((w.setCell ⟨t, 5, none⟩ (.int .i64 (wrap64 (ver + 1)))).setCell ⟨t, 3, none⟩ (.pointer (some ⟨rb, 0, none⟩))).setCell ⟨q, 259, none⟩ (.pointer (some ⟨rb, 0, none⟩))).heap.size = w.heap.size := by simp
  have HQ1 := Lib.hid (show PageAt w1 q es rest (.pointer (some ⟨rb, 0, none⟩)) pv from ⟨by
    rw [hw1, heap_alloc_ne _ _ _ (by rw [hsz]; assumption), heap_setCell_at, heap_setCell_ne _ q t _ _ hne', heap_setCell_ne _ q t _ _ hne', HQ.out.heap]
    simp only [Option.map_some, updObj_cells, List.setIfInBounds_toArray, pg_tail es rest _ _ _ HQ.out.room], HQ.out.room, HQ.out.one⟩)
  have HT1 := Lib.hid (show TreeW G w1 t c fi (.pointer (some ⟨rb, 0, none⟩)) r (wrap64 (ver + 1)) by
    unfold TreeW
    rw [hw1, heap_alloc_ne _ _ _ (by rw [hsz]; assumption), heap_setCell_ne _ t q _ _ hne, heap_setCell_at, heap_setCell_at, show w.heap[t]? = _ from HT.out]
    rfl)
  have HR1 := Lib.hid (show w1.heap[rb]? = some (.cells (pgL XE.cells [] zroom [(.pointer none), .pointer (some ⟨q, 0, none⟩)]).toArray 132 (0, 0)) by
    have h := heap_new ((((w.setCell ⟨t, 5, none⟩ (.int .i64 (wrap64 (ver + 1)))).setCell ⟨t, 3, none⟩ (.pointer (some ⟨rb, 0, none⟩))).setCell ⟨q, 259, none⟩ (.pointer (some ⟨rb, 0, none⟩)))) (.cells (Tryd.zeroCells132.setIfInBounds 260 (.pointer (some ⟨q, 0, none⟩))) 132)
    have e1 : ((((w.setCell ⟨t, 5, none⟩ (.int .i64 (wrap64 (ver + 1)))).setCell ⟨t, 3, none⟩ (.pointer (some ⟨rb, 0, none⟩))).setCell ⟨q, 259, none⟩ (.pointer (some ⟨rb, 0, none⟩)))).heap.size = rb := hsz.trans hrb.symm
    rw [e1, ← hw1, zd_eq] at h
    rw [h]
    simp only [List.setIfInBounds_toArray, pg_tail2 [] zroom _ _ _ (by rw [zroom_len]; rfl)])
  have HC1 := Lib.hid (show Chg (fun b => b = t ∨ b = q) w w1 by rw [hw1]; exact Chg.alloc (Chg.setCell (Chg.setCell (Chg.setCell (Chg.refl (fun b => b = t ∨ b = q) w) (p := ⟨t, 5, none⟩) (.inl (.inl rfl)) _) (p := ⟨t, 3, none⟩) (.inl (.inl rfl)) _) (p := ⟨q, 259, none⟩) (.inl (.inr rfl)) _) _)
  have hrq : ¬ rb = q := by omega
  have hrt : ¬ rb = t := by omega
  have hqr : ¬ q = rb := by omega
  have hrs : rb = w.heap.size := hrb
  have HRB := Lib.hid hrs
  clear hw1 hrb hrs hsz ct4 ct2 ft4 ft2 cn cp fn
  have hs1 := run_cut_all (P := Tryd.prog) arrde szde rb 1
  have hs2 : ∀ w, (Instr.sliceAt 130 (.pointer (some ⟨q, 1, none⟩)) (some (.int .i64 64)) (some (.int .i64 128)) none).run Tryd.prog w = .ok (.slice (some ⟨q, 129, none⟩) 64 65) w := run_cut_lh (P := Tryd.prog) arrde szde q 1 64 128 (by omega) (by omega) (by omega)
  go_still_tail 8, (by kernel_rfl)
  change wpList _ _ _ _ _ w1.drew
  have hfl : (flat XE.cells (es.drop 64)).length = 128 := by rw [flat_len, List.length_drop, HL.out]
  have HFL := Lib.hid hfl
  clear hfl
  refine wpList_copy_rows rfl (.tmp 59) (.tmp 63) 211 211 rfl 129 2 Tryd.underlying211 szde (some ⟨rb, 1, none⟩) (some ⟨q, 129, none⟩) 129 129 64 65 rfl rfl
    rb 1 (pgL XE.cells [] zroom [(.pointer none), .pointer (some ⟨q, 0, none⟩)]).toArray 132 HR1.out (flat XE.cells (es.drop 64)) ?c2 (by omega) ?c3 ?c4 (flat_one _) ?_
  case c2 => rw [HFL.out]; rfl
  case c3 => exact fun _ => ⟨rfl, _, rfl, fun j v h => by rw [add_mk]; exact (HQ1.out.cell _).trans (pgL_src XE.cells 2 XE.two es rest _ 64 es.length j v (by rw [List.take_of_length_le (by simp)]; exact h))⟩
  case c4 => rw [HFL.out, List.size_toArray, pgL_length XE.cells 2 XE.two, zroom_len]; simp
  intro w2 HR2 HC2
  have HQ2 := Lib.hid (HQ1.out.chg ((Chg.refl _ w1).drew.trans HC2.out) hqr)
  have HT2 := Lib.hid (HT1.out.chg ((Chg.refl _ w1).drew.trans HC2.out) (fun h => hrt h.symm))
  clear hs1 hs2
  have hs3 : ∀ w, (Instr.sliceAt 130 (.pointer (some ⟨q, 1, none⟩)) (some (.int .i64 64)) none none).run Tryd.prog w = .ok (.slice (some ⟨q, 129, none⟩) 65 65) w := run_cut_l (P := Tryd.prog) arrde szde q 1 64 (by omega)
  go_wp2
  obtain ⟨rr0, hrr0⟩ : ∃ rr, rr = flat XE.cells (es.drop 64) ++ rest := ⟨_, rfl⟩
  have hl0 : rr0.length = 130 := by rw [hrr0, List.length_append, HFL.out]; have := HQ.out.room; have := HL.out; omega
  have ho0 : ∀ v ∈ rr0, v.oneCell' = true := fun v hv => by rw [hrr0] at hv; rcases List.mem_append.1 hv with h | h; exact flat_one _ v h; exact HQ.out.one v h
  have hq0 : w2.heap[q]? = some (.cells (.int .i64 128 :: (flat XE.cells (es.take 64) ++ (rr0 ++ [(.pointer (some ⟨rb, 0, none⟩)), pv]))).toArray 132 (0, 0)) := by
    rw [HQ2.out.heap, hrr0]
    unfold pgL
    rw [HL.out, ← List.append_assoc (flat XE.cells (es.take 64)), ← List.append_assoc (flat XE.cells (es.take 64)), ← flat_append, List.take_append_drop, ← List.append_assoc]
    rfl
  have HQ0 := Lib.hid hq0
  have HL0 := Lib.hid hl0
  have HO0 := Lib.hid ho0
  clear hrr0 hl0 ho0 hq0 hs3
  go_loopw [70] (fun j wr => ∃ k : Nat, k ≤ 65 ∧ j = .int .i64 k ∧ ∃ rr : List Value, rr.length = 130 ∧ (∀ v ∈ rr, v.oneCell' = true) ∧ wr.heap[q]? = some (.cells (.int .i64 128 :: (flat XE.cells (es.take 64) ++ (rr ++ [(.pointer (some ⟨rb, 0, none⟩)), pv]))).toArray 132 (0, 0)) ∧ Chg (fun b => b = q) w2 wr) (fun j _ => 65 - (intOf j).toNat)
  case atStart => exact ⟨0, by omega, rfl, rr0, HL0.out, HO0.out, HQ0.out, Chg.refl _ _⟩
  case round =>
    obtain ⟨k, hk, rfl, rr, hrr, hro, hwq, hch⟩ := hrel
    have HRR := Lib.hid hrr
    have HRO := Lib.hid hro
    have HWQ := Lib.hid hwq
    have HCH := Lib.hid hch
    clear hrr hro hwq hch
    by_cases hlt : k < 65
    · obtain ⟨d, hd⟩ : ∃ d, d = 64 + k := ⟨_, rfl⟩
      have hd1 : (64 : Int) + ↑k = ↑d := by omega
      have hd2 : IntKind.i64.wrap (d : Int) = d := IntWalk.i64_in _ (by omega)
      have hd3 : (d : Int) < 129 := by omega
      have hd4 : (0 : Int) ≤ d := by omega
      have hlen : (Value.int .i64 128 :: (flat XE.cells (es.take 64) ++ (rr ++ [(.pointer (some ⟨rb, 0, none⟩)), pv]))).length = 261 := by simp [flat_len, HRR.out, HL.out]
      obtain ⟨u1, cu1⟩ : ∃ u, wr.cell? ⟨q, 1 + d * 2, none⟩ = some u := ⟨_, by rw [cell_of_heap HWQ.out, List.getElem?_toArray]; exact List.getElem?_eq_getElem (by rw [hlen]; omega)⟩
      obtain ⟨u2, cu2⟩ : ∃ u, wr.cell? ⟨q, 1 + d * 2 + 1, none⟩ = some u := ⟨_, by rw [cell_of_heap HWQ.out, List.getElem?_toArray]; exact List.getElem?_eq_getElem (by rw [hlen]; omega)⟩
      have fu1 : wr.frozen? ⟨q, 1 + d * 2, none⟩ = false := free_of_heap HWQ.out _
      have fu2 : wr.frozen? ⟨q, 1 + d * 2 + 1, none⟩ = false := free_of_heap HWQ.out _
      have lqr : q < wr.heap.size := lt_of_heap HWQ.out
      have HD := Lib.hid hd
      have HLEN := Lib.hid hlen
      clear hd hlen
      go_wp2
      go_region_with (go_at_call 108; refine (zde_any _).mono ?_; rintro x w4 ⟨rfl, hb4⟩; have du1 := (hb4.cell (p := ⟨q, 1 + d * 2, none⟩) lqr).trans cu1; have du2 := (hb4.cell (p := ⟨q, 1 + d * 2 + 1, none⟩) lqr).trans cu2; have gu1 := (hb4.frozen (p := ⟨q, 1 + d * 2, none⟩) lqr).trans fu1; have gu2 := (hb4.frozen (p := ⟨q, 1 + d * 2 + 1, none⟩) lqr).trans fu2)
      all_goals go_wp2
      all_goals
        obtain ⟨rr', g1, g2, g3⟩ := room_set (A := .int .i64 128 :: flat XE.cells (es.take 64)) (rr := rr) (T := [(.pointer (some ⟨rb, 0, none⟩)), pv]) (o := 1 + d * 2) (.slice none 0 0) (.slice none 0 0) (by simp [flat_len, HL.out]; have := HD.out; omega) (by simp [flat_len, HL.out, HRR.out]; have := HD.out; omega) rfl rfl HRO.out
        refine ⟨⟨k + 1, by omega, by push_cast; rfl, rr', by rw [g1]; exact HRR.out, g2, ?_, ?_⟩, by simp [intOf]; omega⟩
        · have g4 : w4.heap[q]? = some (.cells (.int .i64 128 :: (flat XE.cells (es.take 64) ++ (rr ++ [(.pointer (some ⟨rb, 0, none⟩)), pv]))).toArray 132 (0, 0)) := (hb4.block q lqr).trans HWQ.out
          simp only [heap_setCell_at, g4, Option.map_some, updObj_cells, List.setIfInBounds_toArray]
          rw [show (Value.int .i64 128 :: (flat XE.cells (es.take 64) ++ (rr ++ [(.pointer (some ⟨rb, 0, none⟩)), pv]))) = (.int .i64 128 :: flat XE.cells (es.take 64)) ++ (rr ++ [(.pointer (some ⟨rb, 0, none⟩)), pv]) from rfl, g3]
          rfl
        · exact HCH.out.trans (Chg.setCell (Chg.setCell (Chg.trans (Chg.refl (fun b => b = q) wr).drew (Chg.of_below hb4)) (p := ⟨q, _, none⟩) (.inl rfl) _) (p := ⟨q, _, none⟩) (.inl rfl) _)
    · have hk65 : k = 65 := by omega
      subst hk65
      have cq0 : wr.cell? ⟨q, 0, none⟩ = some (.int .i64 128) := cell_of_heap HWQ.out 0
      have fq0 : wr.frozen? ⟨q, 0, none⟩ = false := free_of_heap HWQ.out 0
      have hR := heap_chg HR2.out HCH.out hrq
      obtain ⟨u0, cr0⟩ : ∃ u, wr.cell? ⟨rb, 0, none⟩ = some u := ⟨_, by rw [cell_of_heap hR, List.getElem?_toArray]; exact List.getElem?_eq_getElem (by rw [length_splice _ _ _ (by rw [HFL.out, pgL_length XE.cells 2 XE.two, zroom_len]; simp), pgL_length XE.cells 2 XE.two]; omega)⟩
      have fr0 : wr.frozen? ⟨rb, 0, none⟩ = false := free_of_heap hR 0
      have HR := Lib.hid hR
      have HTT := Lib.hid (HT2.out.chg HCH.out hne)
      have ct3 : wr.cell? ⟨t, 4, none⟩ = some r := cell_of_heap HTT.out 4
      have ft3 : wr.frozen? ⟨t, 4, none⟩ = false := free_of_heap HTT.out 4
      have lqr : q < wr.heap.size := lt_of_heap HWQ.out
      have lrr : rb < wr.heap.size := lt_of_heap hR
      have ltr : t < wr.heap.size := lt_of_heap HTT.out
      clear hR
      obtain ⟨w5, hw5⟩ : ∃ w5, w5 = (wr.setCell ⟨q, 0, none⟩ (.int .i64 64)).setCell ⟨rb, 0, none⟩ (.int .i64 64) := ⟨_, rfl⟩
      have HC5 := Lib.hid (show Chg (fun b => b = q ∨ b = rb) wr w5 by rw [hw5]; exact Chg.setCell (Chg.setCell (Chg.refl _ wr) (p := ⟨q, 0, none⟩) (.inl (.inl rfl)) _) (p := ⟨rb, 0, none⟩) (.inl (.inr rfl)) _)
      have HQ5 := Lib.hid (show PageAt w5 q (es.take 64) rr (.pointer (some ⟨rb, 0, none⟩)) pv from ⟨by
        rw [hw5, heap_setCell_ne _ q rb _ _ hqr, heap_setCell_at, HWQ.out]
        simp only [Option.map_some, updObj_cells, List.setIfInBounds_toArray, List.set_cons_zero]
        unfold pgL
        rw [List.length_take, HL.out]
        rfl, by rw [List.length_take, HL.out, HRR.out]; rfl, HRO.out⟩)
      have a1 := add_row XE.cells 2 XE.two [] (es.drop 64) zroom [(.pointer none), .pointer (some ⟨q, 0, none⟩)] (by rw [List.length_drop, HL.out, zroom_len]; omega)
      have HR5 := Lib.hid (show PageAt w5 rb (es.drop 64) (zroom.drop ((es.drop 64).length * 2)) (.pointer none) (.pointer (some ⟨q, 0, none⟩)) from ⟨by
        have e1 : (es.drop 64).length = 64 := by rw [List.length_drop, HL.out]
        rw [e1] at a1 ⊢
        rw [hw5, heap_setCell_at, heap_setCell_ne _ rb q _ _ hrq, HR.out]
        simp only [Option.map_some, updObj_cells, List.setIfInBounds_toArray]
        refine congrArg (fun l => some (Obj.cells (List.toArray l) 132 (0, 0))) ?_
        exact a1, by rw [List.length_drop, List.length_drop, HL.out, zroom_len], fun v hv => zroom_one v (List.mem_of_mem_drop hv)⟩)
      have HT5 := Lib.hid (HTT.out.chg HC5.out (by rintro (h | h); exact hne h; exact hrt h.symm))
      clear a1
      obtain ⟨xb, hxb⟩ : ∃ xb, wr.heap.size = xb := ⟨_, rfl⟩
      have HXB := Lib.hid hxb
      rw [hxb] at lqr lrr ltr
      clear hxb
      subst hw5
      by_cases h64 : 64 < i
      · obtain ⟨j, hj⟩ : ∃ j, j = i - 64 := ⟨_, rfl⟩
        have hj1 : (i : Int) - 64 = ↑j := by omega
        have HJ := Lib.hid hj
        have hj2 : j ≤ 64 := by omega
        clear hj
        go_wp2_with (first | (go_at_call 100; refine (newX_at q _ xb (by simpa using HXB.out)).mono ?_; rintro y w6 ⟨rfl, hx6, hb6⟩; have HX6 := Lib.hid hx6; clear hx6) | (go_at_call 99; refine (hang0 xb q rb _ HX6.out).mono ?_; rintro y w7 ⟨rfl, hx7, hc7⟩; have hb6' := hb6; have HQ7 := Lib.hid ((HQ5.out.below hb6).chg hc7 (by omega)); have HR7 := Lib.hid ((HR5.out.below hb6).chg hc7 (by omega)); have HT7 := Lib.hid (show TreeW G w7 _ _ _ _ _ _ from heap_chg (heap_below HT5.out hb6) hc7 (by omega)); have ct37 : w7.cell? ⟨t, 4, none⟩ = some r := cell_of_heap HT7.out 4; have ft37 : w7.frozen? ⟨t, 4, none⟩ = false := free_of_heap HT7.out 4; have HQ8 := Lib.hid (HQ7.out.chg (Chg.setCell (Chg.refl (fun b => b = t) w7) (p := ⟨t, 4, none⟩) (.inl rfl) (.iface 126 (.pointer (some ⟨xb, 0, none⟩)))) hne'); have HR8 := Lib.hid (HR7.out.chg (Chg.setCell (Chg.refl (fun b => b = t) w7) (p := ⟨t, 4, none⟩) (.inl rfl) (.iface 126 (.pointer (some ⟨xb, 0, none⟩)))) hrt); have HT8 := Lib.hid (show TreeW G (w7.setCell ⟨t, 4, none⟩ (.iface 126 (.pointer (some ⟨xb, 0, none⟩)))) t c fi (.pointer (some ⟨rb, 0, none⟩)) (.iface 126 (.pointer (some ⟨xb, 0, none⟩))) (wrap64 (ver + 1)) by unfold TreeW; rw [heap_setCell_at, show w7.heap[t]? = _ from HT7.out]; rfl); have HX8 := Lib.hid (hx7.chg (Chg.setCell (Chg.refl (fun b => b = t) w7) (p := ⟨t, 4, none⟩) (.inl rfl) (.iface 126 (.pointer (some ⟨xb, 0, none⟩)))) (by omega))) | (go_at_call 72; refine (insert_any t rb j (es.drop 64) _ _ _ e c fi _ _ _ _ HR8.out HT8.out (fun h => hrt h.symm) (by rw [List.length_drop, HL.out]; omega) (by rw [List.length_drop, HL.out]; omega) c0 (by omega)).mono ?_; rintro y w9 ⟨rfl, hp9, ⟨ver9, ht9⟩, hc9⟩))
        first | go_end0 | refine bodyPost_ret (results_none rfl _ _ _) rfl ?_
        have d1 : Chg (fun b => b = t ∨ b = q) w w1 := HC1.out.mono (fun k _ h => h)
        have d2 : Chg (fun b => b = t ∨ b = q) w w2 := d1.next ((Chg.refl _ w1).drew.trans HC2.out) (fun k hk h => by have := HRB.out; omega)
        have d3 : Chg (fun b => b = t ∨ b = q) w wr := d2.next HCH.out (fun k hk h => (.inr h))
        have d5 : Chg (fun b => b = t ∨ b = q) w ((wr.setCell ⟨q, 0, none⟩ (.int .i64 64)).setCell ⟨rb, 0, none⟩ (.int .i64 64)) := d3.next HC5.out (fun k hk h => by rcases h with h | h; exact (.inr h); have := HRB.out; omega)
        have d7 : Chg (fun b => b = t ∨ b = q) w w7 := (d5.next (Chg.of_below (S := fun _ => False) hb6) (fun _ _ h => h.elim)).next hc7 (fun k hk h => by have := HRB.out; omega)
        have d8 : Chg (fun b => b = t ∨ b = q) w (w7.setCell ⟨t, 4, none⟩ (.iface 126 (.pointer (some ⟨xb, 0, none⟩)))) := d7.setCell (.inl (.inl rfl)) _
        have d9 : Chg (fun b => b = t ∨ b = q) w w9 := d8.next hc9 (fun k hk h => by rcases h with h | h; exact (.inl h); have := HRB.out; omega)
        have hq9 := HQ8.out.chg hc9 (by rintro (h | h); exact hne' h; exact hqr h)
        exact ⟨rfl, rb, xb, _, ⟨by have := HRB.out; omega, ⟨_, ht9⟩, ⟨es.take 64, (es.drop 64).take j ++ e :: (es.drop 64).drop j, _, _, halves_behind (by have := HJ.out; omega) (by rw [HL.out]; exact hi), by rw [List.length_take, HL.out]; decide, by rw [List.length_take, HL.out]; decide, by simp [HL.out]; omega, by simp [HL.out]; omega, hq9, hp9⟩⟩, HX8.out.chg hc9 (by rintro (h | h) <;> omega), by have := HRB.out; omega, by have := HRB.out; omega, d9⟩
      · have h64' : i ≤ 64 := by omega
        go_wp2_with (first | (go_at_call 100; refine (newX_at q _ xb (by simpa using HXB.out)).mono ?_; rintro y w6 ⟨rfl, hx6, hb6⟩; have HX6 := Lib.hid hx6; clear hx6) | (go_at_call 99; refine (hang0 xb q rb _ HX6.out).mono ?_; rintro y w7 ⟨rfl, hx7, hc7⟩; have hb6' := hb6; have HQ7 := Lib.hid ((HQ5.out.below hb6).chg hc7 (by omega)); have HR7 := Lib.hid ((HR5.out.below hb6).chg hc7 (by omega)); have HT7 := Lib.hid (show TreeW G w7 _ _ _ _ _ _ from heap_chg (heap_below HT5.out hb6) hc7 (by omega)); have ct37 : w7.cell? ⟨t, 4, none⟩ = some r := cell_of_heap HT7.out 4; have ft37 : w7.frozen? ⟨t, 4, none⟩ = false := free_of_heap HT7.out 4; have HQ8 := Lib.hid (HQ7.out.chg (Chg.setCell (Chg.refl (fun b => b = t) w7) (p := ⟨t, 4, none⟩) (.inl rfl) (.iface 126 (.pointer (some ⟨xb, 0, none⟩)))) hne'); have HR8 := Lib.hid (HR7.out.chg (Chg.setCell (Chg.refl (fun b => b = t) w7) (p := ⟨t, 4, none⟩) (.inl rfl) (.iface 126 (.pointer (some ⟨xb, 0, none⟩)))) hrt); have HT8 := Lib.hid (show TreeW G (w7.setCell ⟨t, 4, none⟩ (.iface 126 (.pointer (some ⟨xb, 0, none⟩)))) t c fi (.pointer (some ⟨rb, 0, none⟩)) (.iface 126 (.pointer (some ⟨xb, 0, none⟩))) (wrap64 (ver + 1)) by unfold TreeW; rw [heap_setCell_at, show w7.heap[t]? = _ from HT7.out]; rfl); have HX8 := Lib.hid (hx7.chg (Chg.setCell (Chg.refl (fun b => b = t) w7) (p := ⟨t, 4, none⟩) (.inl rfl) (.iface 126 (.pointer (some ⟨xb, 0, none⟩)))) (by omega))) | (go_at_call 72; refine (insert_any t q i (es.take 64) _ _ _ e c fi _ _ _ _ HQ8.out HT8.out hne (by rw [List.length_take, HL.out]; omega) (by rw [List.length_take, HL.out]; omega) c0 (by omega)).mono ?_; rintro y w9 ⟨rfl, hp9, ⟨ver9, ht9⟩, hc9⟩))
        first | go_end0 | refine bodyPost_ret (results_none rfl _ _ _) rfl ?_
        have d1 : Chg (fun b => b = t ∨ b = q) w w1 := HC1.out.mono (fun k _ h => h)
        have d2 : Chg (fun b => b = t ∨ b = q) w w2 := d1.next ((Chg.refl _ w1).drew.trans HC2.out) (fun k hk h => by have := HRB.out; omega)
        have d3 : Chg (fun b => b = t ∨ b = q) w wr := d2.next HCH.out (fun k hk h => (.inr h))
        have d5 : Chg (fun b => b = t ∨ b = q) w ((wr.setCell ⟨q, 0, none⟩ (.int .i64 64)).setCell ⟨rb, 0, none⟩ (.int .i64 64)) := d3.next HC5.out (fun k hk h => by rcases h with h | h; exact (.inr h); have := HRB.out; omega)
        have d7 : Chg (fun b => b = t ∨ b = q) w w7 := (d5.next (Chg.of_below (S := fun _ => False) hb6) (fun _ _ h => h.elim)).next hc7 (fun k hk h => by have := HRB.out; omega)
        have d8 : Chg (fun b => b = t ∨ b = q) w (w7.setCell ⟨t, 4, none⟩ (.iface 126 (.pointer (some ⟨xb, 0, none⟩)))) := d7.setCell (.inl (.inl rfl)) _
        have d9 : Chg (fun b => b = t ∨ b = q) w w9 := d8.next hc9 (fun k hk h => by rcases h with h | h; exact (.inl h); exact (.inr h))
        have hr9 := HR8.out.chg hc9 (by rintro (h | h); exact hrt h; exact hrq h)
        exact ⟨rfl, rb, xb, _, ⟨by have := HRB.out; omega, ⟨_, ht9⟩, ⟨(es.take 64).take i ++ e :: (es.take 64).drop i, es.drop 64, _, _, halves_ahead h64', by simp [HL.out]; omega, by simp [HL.out]; omega, by rw [List.length_drop, HL.out]; decide, by rw [List.length_drop, HL.out]; decide, hp9, hr9⟩⟩, HX8.out.chg hc9 (by rintro (h | h) <;> omega), by have := HRB.out; omega, by have := HRB.out; omega, d9⟩

set_option maxRecDepth 100000 in
set_option maxHeartbeats 2000000 in
theorem split_rootN (t q : Nat) (x b0 : Nat) (bs : List Nat) (xrest : List Value) (pi : Nat) (i : Nat) (es : List XE) (rest : List Value) (pv : Value) (e : XE) (c : Int) (fi la r : Value) (ver : Int) (w : World)
    (hq : PageAt w q es rest (.pointer none) pv) (ht : TreeW G w t c fi la r ver) (hne : ¬ t = q) (hi : i ≤ 128) (hl : es.length = 128) (c0 : 0 ≤ c) (c1 : c ≤ 2147483646) (hx : RootAt w x b0 bs xrest) (hpi : pi ≤ bs.length) (hbs : bs.length ≤ 250) (hxt : ¬ x = t) (hxq : ¬ x = q) :
    Calls Tryd.prog 105 #[.pointer (some ⟨t, 0, none⟩), .pointer (some ⟨x, 0, none⟩), .pointer (some ⟨q, 0, none⟩), .int .i64 pi, .int .i64 i, .slice e.A e.m e.p, .slice e.B e.n e.q] w (SplitRootP G t q x b0 bs pi es i e pv c fi r w) := by
  have ct4 : w.cell? ⟨t, 5, none⟩ = some (.int .i64 ver) := cell_of_heap ht 5
  have ct2 : w.cell? ⟨t, 3, none⟩ = some la := cell_of_heap ht 3
  have ft4 : w.frozen? ⟨t, 5, none⟩ = false := free_of_heap ht 5
  have ft2 : w.frozen? ⟨t, 3, none⟩ = false := free_of_heap ht 3
  have lt := lt_of_heap ht
  have lq := hq.lt
  have hroom := hq.room
  have cn : w.cell? ⟨q, 259, none⟩ = some (.pointer none) := by rw [hq.cell, pgL_tail XE.cells 2 XE.two es rest _ 259 0 (by omega)]; rfl
  have cp : w.cell? ⟨q, 260, none⟩ = some pv := by rw [hq.cell, pgL_tail XE.cells 2 XE.two es rest _ 260 1 (by omega)]; rfl
  have fn : w.frozen? ⟨q, 259, none⟩ = false := hq.free _
  have hne' : ¬ q = t := fun h => hne h.symm
  have HQ := Lib.hid hq
  have HT := Lib.hid ht
  have HL := Lib.hid hl
  have HX := Lib.hid hx
  clear hq ht hl hroom hx
  go_enter Tryd.func105, Tryd.ntmps105
  go_wp2
  obtain ⟨rb, hrb⟩ : ∃ rb, rb = w.heap.size := ⟨_, rfl⟩
  rw [← hrb]
  obtain ⟨w1, hw1⟩ : ∃ w1, w1 = ((((w.setCell ⟨t, 5, none⟩ (.int .i64 (wrap64 (ver + 1)))).setCell ⟨t, 3, none⟩ (.pointer (some ⟨rb, 0, none⟩))).setCell ⟨q, 259, none⟩ (.pointer (some ⟨rb, 0, none⟩)))).alloc (.cells (Tryd.zeroCells132.setIfInBounds 260 (.pointer (some ⟨q, 0, none⟩))) 132) := ⟨_, rfl⟩
  rw [← hw1]
  have hsz : (((w.setCell ⟨t, 5, none⟩ (.int .i64 (wrap64 (ver + 1)))).setCell ⟨t, 3, none⟩ (.pointer (some ⟨rb, 0, none⟩))).setCell ⟨q, 259, none⟩ (.pointer (some ⟨rb, 0, none⟩))).heap.size = w.heap.size := by simp
  have HQ1 := Lib.hid (show PageAt w1 q es rest (.pointer (some ⟨rb, 0, none⟩)) pv from ⟨by
    rw [hw1, heap_alloc_ne _ _ _ (by rw [hsz]; assumption), heap_setCell_at, heap_setCell_ne _ q t _ _ hne', heap_setCell_ne _ q t _ _ hne', HQ.out.heap]
    simp only [Option.map_some, updObj_cells, List.setIfInBounds_toArray, pg_tail es rest _ _ _ HQ.out.room], HQ.out.room, HQ.out.one⟩)
  have HT1 := Lib.hid (show TreeW G w1 t c fi (.pointer (some ⟨rb, 0, none⟩)) r (wrap64 (ver + 1)) by
    unfold TreeW
    rw [hw1, heap_alloc_ne _ _ _ (by rw [hsz]; assumption), heap_setCell_ne _ t q _ _ hne, heap_setCell_at, heap_setCell_at, show w.heap[t]? = _ from HT.out]
    rfl)
  have HR1 := Lib.hid (show w1.heap[rb]? = some (.cells (pgL XE.cells [] zroom [(.pointer none), .pointer (some ⟨q, 0, none⟩)]).toArray 132 (0, 0)) by
    have h := heap_new ((((w.setCell ⟨t, 5, none⟩ (.int .i64 (wrap64 (ver + 1)))).setCell ⟨t, 3, none⟩ (.pointer (some ⟨rb, 0, none⟩))).setCell ⟨q, 259, none⟩ (.pointer (some ⟨rb, 0, none⟩)))) (.cells (Tryd.zeroCells132.setIfInBounds 260 (.pointer (some ⟨q, 0, none⟩))) 132)
    have e1 : ((((w.setCell ⟨t, 5, none⟩ (.int .i64 (wrap64 (ver + 1)))).setCell ⟨t, 3, none⟩ (.pointer (some ⟨rb, 0, none⟩))).setCell ⟨q, 259, none⟩ (.pointer (some ⟨rb, 0, none⟩)))).heap.size = rb := hsz.trans hrb.symm
    rw [e1, ← hw1, zd_eq] at h
    rw [h]
    simp only [List.setIfInBounds_toArray, pg_tail2 [] zroom _ _ _ (by rw [zroom_len]; rfl)])
  have HC1 := Lib.hid (show Chg (fun b => b = t ∨ b = q) w w1 by rw [hw1]; exact Chg.alloc (Chg.setCell (Chg.setCell (Chg.setCell (Chg.refl (fun b => b = t ∨ b = q) w) (p := ⟨t, 5, none⟩) (.inl (.inl rfl)) _) (p := ⟨t, 3, none⟩) (.inl (.inl rfl)) _) (p := ⟨q, 259, none⟩) (.inl (.inr rfl)) _) _)
  have HX1 := Lib.hid (HX.out.chg HC1.out (by rintro (h | h); exact hxt h; exact hxq h))
  have hrq : ¬ rb = q := by omega
  have hrt : ¬ rb = t := by omega
  have hqr : ¬ q = rb := by omega
  have hrs : rb = w.heap.size := hrb
  have HRB := Lib.hid hrs
  have lx := HX.out.lt
  have hxr : ¬ x = rb := by omega
  clear hw1 hrb hrs hsz ct4 ct2 ft4 ft2 cn cp fn
  have hs1 := run_cut_all (P := Tryd.prog) arrde szde rb 1
  have hs2 : ∀ w, (Instr.sliceAt 130 (.pointer (some ⟨q, 1, none⟩)) (some (.int .i64 64)) (some (.int .i64 128)) none).run Tryd.prog w = .ok (.slice (some ⟨q, 129, none⟩) 64 65) w := run_cut_lh (P := Tryd.prog) arrde szde q 1 64 128 (by omega) (by omega) (by omega)
  go_still_tail 8, (by kernel_rfl)
  change wpList _ _ _ _ _ w1.drew
  have hfl : (flat XE.cells (es.drop 64)).length = 128 := by rw [flat_len, List.length_drop, HL.out]
  have HFL := Lib.hid hfl
  clear hfl
  refine wpList_copy_rows rfl (.tmp 59) (.tmp 63) 211 211 rfl 129 2 Tryd.underlying211 szde (some ⟨rb, 1, none⟩) (some ⟨q, 129, none⟩) 129 129 64 65 rfl rfl
    rb 1 (pgL XE.cells [] zroom [(.pointer none), .pointer (some ⟨q, 0, none⟩)]).toArray 132 HR1.out (flat XE.cells (es.drop 64)) ?c2 (by omega) ?c3 ?c4 (flat_one _) ?_
  case c2 => rw [HFL.out]; rfl
  case c3 => exact fun _ => ⟨rfl, _, rfl, fun j v h => by rw [add_mk]; exact (HQ1.out.cell _).trans (pgL_src XE.cells 2 XE.two es rest _ 64 es.length j v (by rw [List.take_of_length_le (by simp)]; exact h))⟩
  case c4 => rw [HFL.out, List.size_toArray, pgL_length XE.cells 2 XE.two, zroom_len]; simp
  intro w2 HR2 HC2
  have HQ2 := Lib.hid (HQ1.out.chg ((Chg.refl _ w1).drew.trans HC2.out) hqr)
  have HT2 := Lib.hid (HT1.out.chg ((Chg.refl _ w1).drew.trans HC2.out) (fun h => hrt h.symm))
  clear hs1 hs2
  have hs3 : ∀ w, (Instr.sliceAt 130 (.pointer (some ⟨q, 1, none⟩)) (some (.int .i64 64)) none none).run Tryd.prog w = .ok (.slice (some ⟨q, 129, none⟩) 65 65) w := run_cut_l (P := Tryd.prog) arrde szde q 1 64 (by omega)
  go_wp2
  obtain ⟨rr0, hrr0⟩ : ∃ rr, rr = flat XE.cells (es.drop 64) ++ rest := ⟨_, rfl⟩
  have hl0 : rr0.length = 130 := by rw [hrr0, List.length_append, HFL.out]; have := HQ.out.room; have := HL.out; omega
  have ho0 : ∀ v ∈ rr0, v.oneCell' = true := fun v hv => by rw [hrr0] at hv; rcases List.mem_append.1 hv with h | h; exact flat_one _ v h; exact HQ.out.one v h
  have hq0 : w2.heap[q]? = some (.cells (.int .i64 128 :: (flat XE.cells (es.take 64) ++ (rr0 ++ [(.pointer (some ⟨rb, 0, none⟩)), pv]))).toArray 132 (0, 0)) := by
    rw [HQ2.out.heap, hrr0]
    unfold pgL
    rw [HL.out, ← List.append_assoc (flat XE.cells (es.take 64)), ← List.append_assoc (flat XE.cells (es.take 64)), ← flat_append, List.take_append_drop, ← List.append_assoc]
    rfl
  have HQ0 := Lib.hid hq0
  have HL0 := Lib.hid hl0
  have HO0 := Lib.hid ho0
  clear hrr0 hl0 ho0 hq0 hs3
  go_loopw [70] (fun j wr => ∃ k : Nat, k ≤ 65 ∧ j = .int .i64 k ∧ ∃ rr : List Value, rr.length = 130 ∧ (∀ v ∈ rr, v.oneCell' = true) ∧ wr.heap[q]? = some (.cells (.int .i64 128 :: (flat XE.cells (es.take 64) ++ (rr ++ [(.pointer (some ⟨rb, 0, none⟩)), pv]))).toArray 132 (0, 0)) ∧ Chg (fun b => b = q) w2 wr) (fun j _ => 65 - (intOf j).toNat)
  case atStart => exact ⟨0, by omega, rfl, rr0, HL0.out, HO0.out, HQ0.out, Chg.refl _ _⟩
  case round =>
    obtain ⟨k, hk, rfl, rr, hrr, hro, hwq, hch⟩ := hrel
    have HRR := Lib.hid hrr
    have HRO := Lib.hid hro
    have HWQ := Lib.hid hwq
    have HCH := Lib.hid hch
    clear hrr hro hwq hch
    by_cases hlt : k < 65
    · obtain ⟨d, hd⟩ : ∃ d, d = 64 + k := ⟨_, rfl⟩
      have hd1 : (64 : Int) + ↑k = ↑d := by omega
      have hd2 : IntKind.i64.wrap (d : Int) = d := IntWalk.i64_in _ (by omega)
      have hd3 : (d : Int) < 129 := by omega
      have hd4 : (0 : Int) ≤ d := by omega
      have hlen : (Value.int .i64 128 :: (flat XE.cells (es.take 64) ++ (rr ++ [(.pointer (some ⟨rb, 0, none⟩)), pv]))).length = 261 := by simp [flat_len, HRR.out, HL.out]
      obtain ⟨u1, cu1⟩ : ∃ u, wr.cell? ⟨q, 1 + d * 2, none⟩ = some u := ⟨_, by rw [cell_of_heap HWQ.out, List.getElem?_toArray]; exact List.getElem?_eq_getElem (by rw [hlen]; omega)⟩
      obtain ⟨u2, cu2⟩ : ∃ u, wr.cell? ⟨q, 1 + d * 2 + 1, none⟩ = some u := ⟨_, by rw [cell_of_heap HWQ.out, List.getElem?_toArray]; exact List.getElem?_eq_getElem (by rw [hlen]; omega)⟩
      have fu1 : wr.frozen? ⟨q, 1 + d * 2, none⟩ = false := free_of_heap HWQ.out _
      have fu2 : wr.frozen? ⟨q, 1 + d * 2 + 1, none⟩ = false := free_of_heap HWQ.out _
      have lqr : q < wr.heap.size := lt_of_heap HWQ.out
      have HD := Lib.hid hd
      have HLEN := Lib.hid hlen
      clear hd hlen
      go_wp2
      go_region_with (go_at_call 108; refine (zde_any _).mono ?_; rintro x w4 ⟨rfl, hb4⟩; have du1 := (hb4.cell (p := ⟨q, 1 + d * 2, none⟩) lqr).trans cu1; have du2 := (hb4.cell (p := ⟨q, 1 + d * 2 + 1, none⟩) lqr).trans cu2; have gu1 := (hb4.frozen (p := ⟨q, 1 + d * 2, none⟩) lqr).trans fu1; have gu2 := (hb4.frozen (p := ⟨q, 1 + d * 2 + 1, none⟩) lqr).trans fu2)
      all_goals go_wp2
      all_goals
        obtain ⟨rr', g1, g2, g3⟩ := room_set (A := .int .i64 128 :: flat XE.cells (es.take 64)) (rr := rr) (T := [(.pointer (some ⟨rb, 0, none⟩)), pv]) (o := 1 + d * 2) (.slice none 0 0) (.slice none 0 0) (by simp [flat_len, HL.out]; have := HD.out; omega) (by simp [flat_len, HL.out, HRR.out]; have := HD.out; omega) rfl rfl HRO.out
        refine ⟨⟨k + 1, by omega, by push_cast; rfl, rr', by rw [g1]; exact HRR.out, g2, ?_, ?_⟩, by simp [intOf]; omega⟩
        · have g4 : w4.heap[q]? = some (.cells (.int .i64 128 :: (flat XE.cells (es.take 64) ++ (rr ++ [(.pointer (some ⟨rb, 0, none⟩)), pv]))).toArray 132 (0, 0)) := (hb4.block q lqr).trans HWQ.out
          simp only [heap_setCell_at, g4, Option.map_some, updObj_cells, List.setIfInBounds_toArray]
          rw [show (Value.int .i64 128 :: (flat XE.cells (es.take 64) ++ (rr ++ [(.pointer (some ⟨rb, 0, none⟩)), pv]))) = (.int .i64 128 :: flat XE.cells (es.take 64)) ++ (rr ++ [(.pointer (some ⟨rb, 0, none⟩)), pv]) from rfl, g3]
          rfl
        · exact HCH.out.trans (Chg.setCell (Chg.setCell (Chg.trans (Chg.refl (fun b => b = q) wr).drew (Chg.of_below hb4)) (p := ⟨q, _, none⟩) (.inl rfl) _) (p := ⟨q, _, none⟩) (.inl rfl) _)
    · have hk65 : k = 65 := by omega
      subst hk65
      have cq0 : wr.cell? ⟨q, 0, none⟩ = some (.int .i64 128) := cell_of_heap HWQ.out 0
      have fq0 : wr.frozen? ⟨q, 0, none⟩ = false := free_of_heap HWQ.out 0
      have hR := heap_chg HR2.out HCH.out hrq
      obtain ⟨u0, cr0⟩ : ∃ u, wr.cell? ⟨rb, 0, none⟩ = some u := ⟨_, by rw [cell_of_heap hR, List.getElem?_toArray]; exact List.getElem?_eq_getElem (by rw [length_splice _ _ _ (by rw [HFL.out, pgL_length XE.cells 2 XE.two, zroom_len]; simp), pgL_length XE.cells 2 XE.two]; omega)⟩
      have fr0 : wr.frozen? ⟨rb, 0, none⟩ = false := free_of_heap hR 0
      have HR := Lib.hid hR
      have HTT := Lib.hid (HT2.out.chg HCH.out hne)
      have ct3 : wr.cell? ⟨t, 4, none⟩ = some r := cell_of_heap HTT.out 4
      have ft3 : wr.frozen? ⟨t, 4, none⟩ = false := free_of_heap HTT.out 4
      have lqr : q < wr.heap.size := lt_of_heap HWQ.out
      have lrr : rb < wr.heap.size := lt_of_heap hR
      have ltr : t < wr.heap.size := lt_of_heap HTT.out
      clear hR
      obtain ⟨w5, hw5⟩ : ∃ w5, w5 = (wr.setCell ⟨q, 0, none⟩ (.int .i64 64)).setCell ⟨rb, 0, none⟩ (.int .i64 64) := ⟨_, rfl⟩
      have HC5 := Lib.hid (show Chg (fun b => b = q ∨ b = rb) wr w5 by rw [hw5]; exact Chg.setCell (Chg.setCell (Chg.refl _ wr) (p := ⟨q, 0, none⟩) (.inl (.inl rfl)) _) (p := ⟨rb, 0, none⟩) (.inl (.inr rfl)) _)
      have HQ5 := Lib.hid (show PageAt w5 q (es.take 64) rr (.pointer (some ⟨rb, 0, none⟩)) pv from ⟨by
        rw [hw5, heap_setCell_ne _ q rb _ _ hqr, heap_setCell_at, HWQ.out]
        simp only [Option.map_some, updObj_cells, List.setIfInBounds_toArray, List.set_cons_zero]
        unfold pgL
        rw [List.length_take, HL.out]
        rfl, by rw [List.length_take, HL.out, HRR.out]; rfl, HRO.out⟩)
      have a1 := add_row XE.cells 2 XE.two [] (es.drop 64) zroom [(.pointer none), .pointer (some ⟨q, 0, none⟩)] (by rw [List.length_drop, HL.out, zroom_len]; omega)
      have HR5 := Lib.hid (show PageAt w5 rb (es.drop 64) (zroom.drop ((es.drop 64).length * 2)) (.pointer none) (.pointer (some ⟨q, 0, none⟩)) from ⟨by
        have e1 : (es.drop 64).length = 64 := by rw [List.length_drop, HL.out]
        rw [e1] at a1 ⊢
        rw [hw5, heap_setCell_at, heap_setCell_ne _ rb q _ _ hrq, HR.out]
        simp only [Option.map_some, updObj_cells, List.setIfInBounds_toArray]
        refine congrArg (fun l => some (Obj.cells (List.toArray l) 132 (0, 0))) ?_
        exact a1, by rw [List.length_drop, List.length_drop, HL.out, zroom_len], fun v hv => zroom_one v (List.mem_of_mem_drop hv)⟩)
      have HT5 := Lib.hid (HTT.out.chg HC5.out (by rintro (h | h); exact hne h; exact hrt h.symm))
      clear a1
      have HX5 := Lib.hid (((HX1.out.chg ((Chg.refl _ w1).drew.trans HC2.out) hxr).chg HCH.out hxq).chg HC5.out (by rintro (h | h); exact hxq h; exact hxr h))
      subst hw5
      by_cases h64 : 64 < i
      · obtain ⟨j, hj⟩ : ∃ j, j = i - 64 := ⟨_, rfl⟩
        have hj1 : (i : Int) - 64 = ↑j := by omega
        have HJ := Lib.hid hj
        have hj2 : j ≤ 64 := by omega
        clear hj
        go_wp2_with (first | (go_at_call 99; refine (hang_any x b0 rb bs xrest pi _ HX5.out hpi (by omega)).mono ?_; rintro y w7 ⟨rfl, hx7, hc7⟩; have HQ7 := Lib.hid (HQ5.out.chg hc7 (fun h => hxq h.symm)); have HR7 := Lib.hid (HR5.out.chg hc7 (fun h => hxr h.symm)); have HT7 := Lib.hid (HT5.out.chg hc7 (fun h => hxt h.symm)); have HQ8 := HQ7; have HR8 := HR7; have HT8 := HT7; have HX8 := Lib.hid hx7) | (go_at_call 72; refine (insert_any t rb j (es.drop 64) _ _ _ e c fi _ _ _ _ HR8.out HT8.out (fun h => hrt h.symm) (by rw [List.length_drop, HL.out]; omega) (by rw [List.length_drop, HL.out]; omega) c0 (by omega)).mono ?_; rintro y w9 ⟨rfl, hp9, ⟨ver9, ht9⟩, hc9⟩))
        first | go_end0 | refine bodyPost_ret (results_none rfl _ _ _) rfl ?_
        have d1 : Chg (fun b => (b = t ∨ b = q) ∨ b = x) w w1 := HC1.out.mono (fun k _ h => (.inl h))
        have d2 : Chg (fun b => (b = t ∨ b = q) ∨ b = x) w w2 := d1.next ((Chg.refl _ w1).drew.trans HC2.out) (fun k hk h => by have := HRB.out; omega)
        have d3 : Chg (fun b => (b = t ∨ b = q) ∨ b = x) w wr := d2.next HCH.out (fun k hk h => (.inl (.inr h)))
        have d5 : Chg (fun b => (b = t ∨ b = q) ∨ b = x) w ((wr.setCell ⟨q, 0, none⟩ (.int .i64 64)).setCell ⟨rb, 0, none⟩ (.int .i64 64)) := d3.next HC5.out (fun k hk h => by rcases h with h | h; exact (.inl (.inr h)); have := HRB.out; omega)
        have d8 : Chg (fun b => (b = t ∨ b = q) ∨ b = x) w w7 := d5.next hc7 (fun k hk h => .inr h)
        have d9 : Chg (fun b => (b = t ∨ b = q) ∨ b = x) w w9 := d8.next hc9 (fun k hk h => by rcases h with h | h; exact (.inl (.inl h)); have := HRB.out; omega)
        have hq9 := HQ8.out.chg hc9 (by rintro (h | h); exact hne' h; exact hqr h)
        exact ⟨rfl, rb, _, ⟨by have := HRB.out; omega, ⟨_, ht9⟩, ⟨es.take 64, (es.drop 64).take j ++ e :: (es.drop 64).drop j, _, _, halves_behind (by have := HJ.out; omega) (by rw [HL.out]; exact hi), by rw [List.length_take, HL.out]; decide, by rw [List.length_take, HL.out]; decide, by simp [HL.out]; omega, by simp [HL.out]; omega, hq9, hp9⟩⟩, HX8.out.chg hc9 (by rintro (h | h); exact hxt h; exact hxr h), d9⟩
      · have h64' : i ≤ 64 := by omega
        go_wp2_with (first | (go_at_call 99; refine (hang_any x b0 rb bs xrest pi _ HX5.out hpi (by omega)).mono ?_; rintro y w7 ⟨rfl, hx7, hc7⟩; have HQ7 := Lib.hid (HQ5.out.chg hc7 (fun h => hxq h.symm)); have HR7 := Lib.hid (HR5.out.chg hc7 (fun h => hxr h.symm)); have HT7 := Lib.hid (HT5.out.chg hc7 (fun h => hxt h.symm)); have HQ8 := HQ7; have HR8 := HR7; have HT8 := HT7; have HX8 := Lib.hid hx7) | (go_at_call 72; refine (insert_any t q i (es.take 64) _ _ _ e c fi _ _ _ _ HQ8.out HT8.out hne (by rw [List.length_take, HL.out]; omega) (by rw [List.length_take, HL.out]; omega) c0 (by omega)).mono ?_; rintro y w9 ⟨rfl, hp9, ⟨ver9, ht9⟩, hc9⟩))
        first | go_end0 | refine bodyPost_ret (results_none rfl _ _ _) rfl ?_
        have d1 : Chg (fun b => (b = t ∨ b = q) ∨ b = x) w w1 := HC1.out.mono (fun k _ h => (.inl h))
        have d2 : Chg (fun b => (b = t ∨ b = q) ∨ b = x) w w2 := d1.next ((Chg.refl _ w1).drew.trans HC2.out) (fun k hk h => by have := HRB.out; omega)
        have d3 : Chg (fun b => (b = t ∨ b = q) ∨ b = x) w wr := d2.next HCH.out (fun k hk h => (.inl (.inr h)))
        have d5 : Chg (fun b => (b = t ∨ b = q) ∨ b = x) w ((wr.setCell ⟨q, 0, none⟩ (.int .i64 64)).setCell ⟨rb, 0, none⟩ (.int .i64 64)) := d3.next HC5.out (fun k hk h => by rcases h with h | h; exact (.inl (.inr h)); have := HRB.out; omega)
        have d8 : Chg (fun b => (b = t ∨ b = q) ∨ b = x) w w7 := d5.next hc7 (fun k hk h => .inr h)
        have d9 : Chg (fun b => (b = t ∨ b = q) ∨ b = x) w w9 := d8.next hc9 (fun k hk h => by rcases h with h | h; exact (.inl (.inl h)); exact (.inl (.inr h)))
        have hr9 := HR8.out.chg hc9 (by rintro (h | h); exact hrt h; exact hrq h)
        exact ⟨rfl, rb, _, ⟨by have := HRB.out; omega, ⟨_, ht9⟩, ⟨(es.take 64).take i ++ e :: (es.take 64).drop i, es.drop 64, _, _, halves_ahead h64', by simp [HL.out]; omega, by simp [HL.out]; omega, by rw [List.length_drop, HL.out]; decide, by rw [List.length_drop, HL.out]; decide, hp9, hr9⟩⟩, HX8.out.chg hc9 (by rintro (h | h); exact hxt h; exact hxq h), d9⟩

set_option maxRecDepth 100000 in
set_option maxHeartbeats 2000000 in
theorem split_rootS (t q : Nat) (x b0 : Nat) (bs : List Nat) (xrest : List Value) (pi : Nat) (nb : Nat) (ns : List XE) (nrest : List Value) (nnx : Value) (i : Nat) (es : List XE) (rest : List Value) (pv : Value) (e : XE) (c : Int) (fi la r : Value) (ver : Int) (w : World)
    (hq : PageAt w q es rest (.pointer (some ⟨nb, 0, none⟩)) pv) (ht : TreeW G w t c fi la r ver) (hne : ¬ t = q) (hi : i ≤ 128) (hl : es.length = 128) (c0 : 0 ≤ c) (c1 : c ≤ 2147483646) (hx : RootAt w x b0 bs xrest) (hpi : pi ≤ bs.length) (hbs : bs.length ≤ 250) (hxt : ¬ x = t) (hxq : ¬ x = q) (hn : PageAt w nb ns nrest nnx (.pointer (some ⟨q, 0, none⟩))) (hnt : ¬ nb = t) (hnq : ¬ nb = q) (hxn : ¬ x = nb) :
    Calls Tryd.prog 105 #[.pointer (some ⟨t, 0, none⟩), .pointer (some ⟨x, 0, none⟩), .pointer (some ⟨q, 0, none⟩), .int .i64 pi, .int .i64 i, .slice e.A e.m e.p, .slice e.B e.n e.q] w (SplitNextP G t q x b0 bs pi nb ns nrest nnx es i e pv c fi la r w) := by
  have ct4 : w.cell? ⟨t, 5, none⟩ = some (.int .i64 ver) := cell_of_heap ht 5
  have ct2 : w.cell? ⟨t, 3, none⟩ = some la := cell_of_heap ht 3
  have ft4 : w.frozen? ⟨t, 5, none⟩ = false := free_of_heap ht 5
  have ft2 : w.frozen? ⟨t, 3, none⟩ = false := free_of_heap ht 3
  have lt := lt_of_heap ht
  have lq := hq.lt
  have hroom := hq.room
  have cn : w.cell? ⟨q, 259, none⟩ = some (.pointer (some ⟨nb, 0, none⟩)) := by rw [hq.cell, pgL_tail XE.cells 2 XE.two es rest _ 259 0 (by omega)]; rfl
  have cp : w.cell? ⟨q, 260, none⟩ = some pv := by rw [hq.cell, pgL_tail XE.cells 2 XE.two es rest _ 260 1 (by omega)]; rfl
  have fn : w.frozen? ⟨q, 259, none⟩ = false := hq.free _
  have cnp : w.cell? ⟨nb, 260, none⟩ = some (.pointer (some ⟨q, 0, none⟩)) := by have := hn.room; rw [hn.cell, pgL_tail XE.cells 2 XE.two ns nrest _ 260 1 (by omega)]; rfl
  have fnp : w.frozen? ⟨nb, 260, none⟩ = false := hn.free _
  have ln := hn.lt
  have hne' : ¬ q = t := fun h => hne h.symm
  have HQ := Lib.hid hq
  have HT := Lib.hid ht
  have HL := Lib.hid hl
  have HNB := Lib.hid hn
  have HX := Lib.hid hx
  clear hq ht hl hroom hn hx
  go_enter Tryd.func105, Tryd.ntmps105
  go_wp2
  obtain ⟨rb, hrb⟩ : ∃ rb, rb = w.heap.size := ⟨_, rfl⟩
  rw [← hrb]
  obtain ⟨w1, hw1⟩ : ∃ w1, w1 = ((((w.setCell ⟨t, 5, none⟩ (.int .i64 (wrap64 (ver + 1)))).setCell ⟨nb, 260, none⟩ (.pointer (some ⟨rb, 0, none⟩))).setCell ⟨q, 259, none⟩ (.pointer (some ⟨rb, 0, none⟩)))).alloc (.cells ((Tryd.zeroCells132.setIfInBounds 259 (.pointer (some ⟨nb, 0, none⟩))).setIfInBounds 260 (.pointer (some ⟨q, 0, none⟩))) 132) := ⟨_, rfl⟩
  rw [← hw1]
  have hsz : (((w.setCell ⟨t, 5, none⟩ (.int .i64 (wrap64 (ver + 1)))).setCell ⟨nb, 260, none⟩ (.pointer (some ⟨rb, 0, none⟩))).setCell ⟨q, 259, none⟩ (.pointer (some ⟨rb, 0, none⟩))).heap.size = w.heap.size := by simp
  have HQ1 := Lib.hid (show PageAt w1 q es rest (.pointer (some ⟨rb, 0, none⟩)) pv from ⟨by
    rw [hw1, heap_alloc_ne _ _ _ (by rw [hsz]; assumption), heap_setCell_at, heap_setCell_ne _ q nb _ _ (fun h => hnq h.symm), heap_setCell_ne _ q t _ _ hne', HQ.out.heap]
    simp only [Option.map_some, updObj_cells, List.setIfInBounds_toArray, pg_tail es rest _ _ _ HQ.out.room], HQ.out.room, HQ.out.one⟩)
  have HT1 := Lib.hid (show TreeW G w1 t c fi la r (wrap64 (ver + 1)) by
    unfold TreeW
    rw [hw1, heap_alloc_ne _ _ _ (by rw [hsz]; assumption), heap_setCell_ne _ t q _ _ hne, heap_setCell_ne _ t nb _ _ (fun h => hnt h.symm), heap_setCell_at, show w.heap[t]? = _ from HT.out]
    rfl)
  have HR1 := Lib.hid (show w1.heap[rb]? = some (.cells (pgL XE.cells [] zroom [(.pointer (some ⟨nb, 0, none⟩)), .pointer (some ⟨q, 0, none⟩)]).toArray 132 (0, 0)) by
    have h := heap_new ((((w.setCell ⟨t, 5, none⟩ (.int .i64 (wrap64 (ver + 1)))).setCell ⟨nb, 260, none⟩ (.pointer (some ⟨rb, 0, none⟩))).setCell ⟨q, 259, none⟩ (.pointer (some ⟨rb, 0, none⟩)))) (.cells ((Tryd.zeroCells132.setIfInBounds 259 (.pointer (some ⟨nb, 0, none⟩))).setIfInBounds 260 (.pointer (some ⟨q, 0, none⟩))) 132)
    have e1 : ((((w.setCell ⟨t, 5, none⟩ (.int .i64 (wrap64 (ver + 1)))).setCell ⟨nb, 260, none⟩ (.pointer (some ⟨rb, 0, none⟩))).setCell ⟨q, 259, none⟩ (.pointer (some ⟨rb, 0, none⟩)))).heap.size = rb := hsz.trans hrb.symm
    rw [e1, ← hw1, zd_eq] at h
    rw [h]
    simp only [List.setIfInBounds_toArray, pg_tail [] zroom _ _ _ (by rw [zroom_len]; rfl), pg_tail2 [] zroom _ _ _ (by rw [zroom_len]; rfl)])
  have HC1 := Lib.hid (show Chg (fun b => b = t ∨ b = q ∨ b = nb) w w1 by rw [hw1]; exact Chg.alloc (Chg.setCell (Chg.setCell (Chg.setCell (Chg.refl (fun b => b = t ∨ b = q ∨ b = nb) w) (p := ⟨t, 5, none⟩) (.inl (.inl rfl)) _) (p := ⟨nb, 260, none⟩) (.inl (.inr (.inr rfl))) _) (p := ⟨q, 259, none⟩) (.inl (.inr (.inl rfl))) _) _)
  have HN1 := Lib.hid (show PageAt w1 nb ns nrest nnx (.pointer (some ⟨rb, 0, none⟩)) from ⟨by
    rw [hw1, heap_alloc_ne _ _ _ (by rw [hsz]; assumption), heap_setCell_ne _ nb q _ _ hnq, heap_setCell_at, heap_setCell_ne _ nb t _ _ hnt, HNB.out.heap]
    simp only [Option.map_some, updObj_cells, List.setIfInBounds_toArray, pg_tail2 ns nrest _ _ _ HNB.out.room], HNB.out.room, HNB.out.one⟩)
  have HX1 := Lib.hid (HX.out.chg HC1.out (by rintro (h | h | h); exact hxt h; exact hxq h; exact hxn h))
  have hrq : ¬ rb = q := by omega
  have hrt : ¬ rb = t := by omega
  have hqr : ¬ q = rb := by omega
  have hrs : rb = w.heap.size := hrb
  have HRB := Lib.hid hrs
  have lx := HX.out.lt
  have hxr : ¬ x = rb := by omega
  have hnr : ¬ nb = rb := by omega
  clear hw1 hrb hrs hsz ct4 ct2 ft4 ft2 cn cp fn cnp fnp
  have hs1 := run_cut_all (P := Tryd.prog) arrde szde rb 1
  have hs2 : ∀ w, (Instr.sliceAt 130 (.pointer (some ⟨q, 1, none⟩)) (some (.int .i64 64)) (some (.int .i64 128)) none).run Tryd.prog w = .ok (.slice (some ⟨q, 129, none⟩) 64 65) w := run_cut_lh (P := Tryd.prog) arrde szde q 1 64 128 (by omega) (by omega) (by omega)
  go_still_tail 8, (by kernel_rfl)
  change wpList _ _ _ _ _ w1.drew
  have hfl : (flat XE.cells (es.drop 64)).length = 128 := by rw [flat_len, List.length_drop, HL.out]
  have HFL := Lib.hid hfl
  clear hfl
  refine wpList_copy_rows rfl (.tmp 59) (.tmp 63) 211 211 rfl 129 2 Tryd.underlying211 szde (some ⟨rb, 1, none⟩) (some ⟨q, 129, none⟩) 129 129 64 65 rfl rfl
    rb 1 (pgL XE.cells [] zroom [(.pointer (some ⟨nb, 0, none⟩)), .pointer (some ⟨q, 0, none⟩)]).toArray 132 HR1.out (flat XE.cells (es.drop 64)) ?c2 (by omega) ?c3 ?c4 (flat_one _) ?_
  case c2 => rw [HFL.out]; rfl
  case c3 => exact fun _ => ⟨rfl, _, rfl, fun j v h => by rw [add_mk]; exact (HQ1.out.cell _).trans (pgL_src XE.cells 2 XE.two es rest _ 64 es.length j v (by rw [List.take_of_length_le (by simp)]; exact h))⟩
  case c4 => rw [HFL.out, List.size_toArray, pgL_length XE.cells 2 XE.two, zroom_len]; simp
  intro w2 HR2 HC2
  have HQ2 := Lib.hid (HQ1.out.chg ((Chg.refl _ w1).drew.trans HC2.out) hqr)
  have HT2 := Lib.hid (HT1.out.chg ((Chg.refl _ w1).drew.trans HC2.out) (fun h => hrt h.symm))
  clear hs1 hs2
  have hs3 : ∀ w, (Instr.sliceAt 130 (.pointer (some ⟨q, 1, none⟩)) (some (.int .i64 64)) none none).run Tryd.prog w = .ok (.slice (some ⟨q, 129, none⟩) 65 65) w := run_cut_l (P := Tryd.prog) arrde szde q 1 64 (by omega)
  go_wp2
  obtain ⟨rr0, hrr0⟩ : ∃ rr, rr = flat XE.cells (es.drop 64) ++ rest := ⟨_, rfl⟩
  have hl0 : rr0.length = 130 := by rw [hrr0, List.length_append, HFL.out]; have := HQ.out.room; have := HL.out; omega
  have ho0 : ∀ v ∈ rr0, v.oneCell' = true := fun v hv => by rw [hrr0] at hv; rcases List.mem_append.1 hv with h | h; exact flat_one _ v h; exact HQ.out.one v h
  have hq0 : w2.heap[q]? = some (.cells (.int .i64 128 :: (flat XE.cells (es.take 64) ++ (rr0 ++ [(.pointer (some ⟨rb, 0, none⟩)), pv]))).toArray 132 (0, 0)) := by
    rw [HQ2.out.heap, hrr0]
    unfold pgL
    rw [HL.out, ← List.append_assoc (flat XE.cells (es.take 64)), ← List.append_assoc (flat XE.cells (es.take 64)), ← flat_append, List.take_append_drop, ← List.append_assoc]
    rfl
  have HQ0 := Lib.hid hq0
  have HL0 := Lib.hid hl0
  have HO0 := Lib.hid ho0
  clear hrr0 hl0 ho0 hq0 hs3
  go_loopw [70] (fun j wr => ∃ k : Nat, k ≤ 65 ∧ j = .int .i64 k ∧ ∃ rr : List Value, rr.length = 130 ∧ (∀ v ∈ rr, v.oneCell' = true) ∧ wr.heap[q]? = some (.cells (.int .i64 128 :: (flat XE.cells (es.take 64) ++ (rr ++ [(.pointer (some ⟨rb, 0, none⟩)), pv]))).toArray 132 (0, 0)) ∧ Chg (fun b => b = q) w2 wr) (fun j _ => 65 - (intOf j).toNat)
  case atStart => exact ⟨0, by omega, rfl, rr0, HL0.out, HO0.out, HQ0.out, Chg.refl _ _⟩
  case round =>
    obtain ⟨k, hk, rfl, rr, hrr, hro, hwq, hch⟩ := hrel
    have HRR := Lib.hid hrr
    have HRO := Lib.hid hro
    have HWQ := Lib.hid hwq
    have HCH := Lib.hid hch
    clear hrr hro hwq hch
    by_cases hlt : k < 65
    · obtain ⟨d, hd⟩ : ∃ d, d = 64 + k := ⟨_, rfl⟩
      have hd1 : (64 : Int) + ↑k = ↑d := by omega
      have hd2 : IntKind.i64.wrap (d : Int) = d := IntWalk.i64_in _ (by omega)
      have hd3 : (d : Int) < 129 := by omega
      have hd4 : (0 : Int) ≤ d := by omega
      have hlen : (Value.int .i64 128 :: (flat XE.cells (es.take 64) ++ (rr ++ [(.pointer (some ⟨rb, 0, none⟩)), pv]))).length = 261 := by simp [flat_len, HRR.out, HL.out]
      obtain ⟨u1, cu1⟩ : ∃ u, wr.cell? ⟨q, 1 + d * 2, none⟩ = some u := ⟨_, by rw [cell_of_heap HWQ.out, List.getElem?_toArray]; exact List.getElem?_eq_getElem (by rw [hlen]; omega)⟩
      obtain ⟨u2, cu2⟩ : ∃ u, wr.cell? ⟨q, 1 + d * 2 + 1, none⟩ = some u := ⟨_, by rw [cell_of_heap HWQ.out, List.getElem?_toArray]; exact List.getElem?_eq_getElem (by rw [hlen]; omega)⟩
      have fu1 : wr.frozen? ⟨q, 1 + d * 2, none⟩ = false := free_of_heap HWQ.out _
      have fu2 : wr.frozen? ⟨q, 1 + d * 2 + 1, none⟩ = false := free_of_heap HWQ.out _
      have lqr : q < wr.heap.size := lt_of_heap HWQ.out
      have HD := Lib.hid hd
      have HLEN := Lib.hid hlen
      clear hd hlen
      go_wp2
      go_region_with (go_at_call 108; refine (zde_any _).mono ?_; rintro x w4 ⟨rfl, hb4⟩; have du1 := (hb4.cell (p := ⟨q, 1 + d * 2, none⟩) lqr).trans cu1; have du2 := (hb4.cell (p := ⟨q, 1 + d * 2 + 1, none⟩) lqr).trans cu2; have gu1 := (hb4.frozen (p := ⟨q, 1 + d * 2, none⟩) lqr).trans fu1; have gu2 := (hb4.frozen (p := ⟨q, 1 + d * 2 + 1, none⟩) lqr).trans fu2)
      all_goals go_wp2
      all_goals
        obtain ⟨rr', g1, g2, g3⟩ := room_set (A := .int .i64 128 :: flat XE.cells (es.take 64)) (rr := rr) (T := [(.pointer (some ⟨rb, 0, none⟩)), pv]) (o := 1 + d * 2) (.slice none 0 0) (.slice none 0 0) (by simp [flat_len, HL.out]; have := HD.out; omega) (by simp [flat_len, HL.out, HRR.out]; have := HD.out; omega) rfl rfl HRO.out
        refine ⟨⟨k + 1, by omega, by push_cast; rfl, rr', by rw [g1]; exact HRR.out, g2, ?_, ?_⟩, by simp [intOf]; omega⟩
        · have g4 : w4.heap[q]? = some (.cells (.int .i64 128 :: (flat XE.cells (es.take 64) ++ (rr ++ [(.pointer (some ⟨rb, 0, none⟩)), pv]))).toArray 132 (0, 0)) := (hb4.block q lqr).trans HWQ.out
          simp only [heap_setCell_at, g4, Option.map_some, updObj_cells, List.setIfInBounds_toArray]
          rw [show (Value.int .i64 128 :: (flat XE.cells (es.take 64) ++ (rr ++ [(.pointer (some ⟨rb, 0, none⟩)), pv]))) = (.int .i64 128 :: flat XE.cells (es.take 64)) ++ (rr ++ [(.pointer (some ⟨rb, 0, none⟩)), pv]) from rfl, g3]
          rfl
        · exact HCH.out.trans (Chg.setCell (Chg.setCell (Chg.trans (Chg.refl (fun b => b = q) wr).drew (Chg.of_below hb4)) (p := ⟨q, _, none⟩) (.inl rfl) _) (p := ⟨q, _, none⟩) (.inl rfl) _)
    · have hk65 : k = 65 := by omega
      subst hk65
      have cq0 : wr.cell? ⟨q, 0, none⟩ = some (.int .i64 128) := cell_of_heap HWQ.out 0
      have fq0 : wr.frozen? ⟨q, 0, none⟩ = false := free_of_heap HWQ.out 0
      have hR := heap_chg HR2.out HCH.out hrq
      obtain ⟨u0, cr0⟩ : ∃ u, wr.cell? ⟨rb, 0, none⟩ = some u := ⟨_, by rw [cell_of_heap hR, List.getElem?_toArray]; exact List.getElem?_eq_getElem (by rw [length_splice _ _ _ (by rw [HFL.out, pgL_length XE.cells 2 XE.two, zroom_len]; simp), pgL_length XE.cells 2 XE.two]; omega)⟩
      have fr0 : wr.frozen? ⟨rb, 0, none⟩ = false := free_of_heap hR 0
      have HR := Lib.hid hR
      have HTT := Lib.hid (HT2.out.chg HCH.out hne)
      have ct3 : wr.cell? ⟨t, 4, none⟩ = some r := cell_of_heap HTT.out 4
      have ft3 : wr.frozen? ⟨t, 4, none⟩ = false := free_of_heap HTT.out 4
      have lqr : q < wr.heap.size := lt_of_heap HWQ.out
      have lrr : rb < wr.heap.size := lt_of_heap hR
      have ltr : t < wr.heap.size := lt_of_heap HTT.out
      clear hR
      obtain ⟨w5, hw5⟩ : ∃ w5, w5 = (wr.setCell ⟨q, 0, none⟩ (.int .i64 64)).setCell ⟨rb, 0, none⟩ (.int .i64 64) := ⟨_, rfl⟩
      have HC5 := Lib.hid (show Chg (fun b => b = q ∨ b = rb) wr w5 by rw [hw5]; exact Chg.setCell (Chg.setCell (Chg.refl _ wr) (p := ⟨q, 0, none⟩) (.inl (.inl rfl)) _) (p := ⟨rb, 0, none⟩) (.inl (.inr rfl)) _)
      have HQ5 := Lib.hid (show PageAt w5 q (es.take 64) rr (.pointer (some ⟨rb, 0, none⟩)) pv from ⟨by
        rw [hw5, heap_setCell_ne _ q rb _ _ hqr, heap_setCell_at, HWQ.out]
        simp only [Option.map_some, updObj_cells, List.setIfInBounds_toArray, List.set_cons_zero]
        unfold pgL
        rw [List.length_take, HL.out]
        rfl, by rw [List.length_take, HL.out, HRR.out]; rfl, HRO.out⟩)
      have a1 := add_row XE.cells 2 XE.two [] (es.drop 64) zroom [(.pointer (some ⟨nb, 0, none⟩)), .pointer (some ⟨q, 0, none⟩)] (by rw [List.length_drop, HL.out, zroom_len]; omega)
      have HR5 := Lib.hid (show PageAt w5 rb (es.drop 64) (zroom.drop ((es.drop 64).length * 2)) (.pointer (some ⟨nb, 0, none⟩)) (.pointer (some ⟨q, 0, none⟩)) from ⟨by
        have e1 : (es.drop 64).length = 64 := by rw [List.length_drop, HL.out]
        rw [e1] at a1 ⊢
        rw [hw5, heap_setCell_at, heap_setCell_ne _ rb q _ _ hrq, HR.out]
        simp only [Option.map_some, updObj_cells, List.setIfInBounds_toArray]
        refine congrArg (fun l => some (Obj.cells (List.toArray l) 132 (0, 0))) ?_
        exact a1, by rw [List.length_drop, List.length_drop, HL.out, zroom_len], fun v hv => zroom_one v (List.mem_of_mem_drop hv)⟩)
      have HT5 := Lib.hid (HTT.out.chg HC5.out (by rintro (h | h); exact hne h; exact hrt h.symm))
      clear a1
      have HX5 := Lib.hid (((HX1.out.chg ((Chg.refl _ w1).drew.trans HC2.out) hxr).chg HCH.out hxq).chg HC5.out (by rintro (h | h); exact hxq h; exact hxr h))
      subst hw5
      by_cases h64 : 64 < i
      · obtain ⟨j, hj⟩ : ∃ j, j = i - 64 := ⟨_, rfl⟩
        have hj1 : (i : Int) - 64 = ↑j := by omega
        have HJ := Lib.hid hj
        have hj2 : j ≤ 64 := by omega
        clear hj
        go_wp2_with (first | (go_at_call 99; refine (hang_any x b0 rb bs xrest pi _ HX5.out hpi (by omega)).mono ?_; rintro y w7 ⟨rfl, hx7, hc7⟩; have HQ7 := Lib.hid (HQ5.out.chg hc7 (fun h => hxq h.symm)); have HR7 := Lib.hid (HR5.out.chg hc7 (fun h => hxr h.symm)); have HT7 := Lib.hid (HT5.out.chg hc7 (fun h => hxt h.symm)); have HQ8 := HQ7; have HR8 := HR7; have HT8 := HT7; have HX8 := Lib.hid hx7) | (go_at_call 72; refine (insert_any t rb j (es.drop 64) _ _ _ e c fi _ _ _ _ HR8.out HT8.out (fun h => hrt h.symm) (by rw [List.length_drop, HL.out]; omega) (by rw [List.length_drop, HL.out]; omega) c0 (by omega)).mono ?_; rintro y w9 ⟨rfl, hp9, ⟨ver9, ht9⟩, hc9⟩))
        first | go_end0 | refine bodyPost_ret (results_none rfl _ _ _) rfl ?_
        have d1 : Chg (fun b => (b = t ∨ b = q ∨ b = nb) ∨ b = x) w w1 := HC1.out.mono (fun k _ h => (.inl h))
        have d2 : Chg (fun b => (b = t ∨ b = q ∨ b = nb) ∨ b = x) w w2 := d1.next ((Chg.refl _ w1).drew.trans HC2.out) (fun k hk h => by have := HRB.out; omega)
        have d3 : Chg (fun b => (b = t ∨ b = q ∨ b = nb) ∨ b = x) w wr := d2.next HCH.out (fun k hk h => (.inl (.inr (.inl h))))
        have d5 : Chg (fun b => (b = t ∨ b = q ∨ b = nb) ∨ b = x) w ((wr.setCell ⟨q, 0, none⟩ (.int .i64 64)).setCell ⟨rb, 0, none⟩ (.int .i64 64)) := d3.next HC5.out (fun k hk h => by rcases h with h | h; exact (.inl (.inr (.inl h))); have := HRB.out; omega)
        have d8 : Chg (fun b => (b = t ∨ b = q ∨ b = nb) ∨ b = x) w w7 := d5.next hc7 (fun k hk h => .inr h)
        have d9 : Chg (fun b => (b = t ∨ b = q ∨ b = nb) ∨ b = x) w w9 := d8.next hc9 (fun k hk h => by rcases h with h | h; exact (.inl (.inl h)); have := HRB.out; omega)
        have hq9 := HQ8.out.chg hc9 (by rintro (h | h); exact hne' h; exact hqr h)
        have hn9 := (((((HN1.out.chg ((Chg.refl _ w1).drew.trans HC2.out) hnr).chg HCH.out hnq).chg HC5.out (by rintro (h | h); exact hnq h; exact hnr h)).chg hc7 (fun h => hxn h.symm)).chg hc9 (by rintro (h | h); exact hnt h; exact hnr h))
        exact ⟨rfl, rb, _, ⟨by have := HRB.out; omega, ⟨_, ht9⟩, ⟨es.take 64, (es.drop 64).take j ++ e :: (es.drop 64).drop j, _, _, halves_behind (by have := HJ.out; omega) (by rw [HL.out]; exact hi), by rw [List.length_take, HL.out]; decide, by rw [List.length_take, HL.out]; decide, by simp [HL.out]; omega, by simp [HL.out]; omega, hq9, hp9⟩⟩, HX8.out.chg hc9 (by rintro (h | h); exact hxt h; exact hxr h), hn9, d9⟩
      · have h64' : i ≤ 64 := by omega
        go_wp2_with (first | (go_at_call 99; refine (hang_any x b0 rb bs xrest pi _ HX5.out hpi (by omega)).mono ?_; rintro y w7 ⟨rfl, hx7, hc7⟩; have HQ7 := Lib.hid (HQ5.out.chg hc7 (fun h => hxq h.symm)); have HR7 := Lib.hid (HR5.out.chg hc7 (fun h => hxr h.symm)); have HT7 := Lib.hid (HT5.out.chg hc7 (fun h => hxt h.symm)); have HQ8 := HQ7; have HR8 := HR7; have HT8 := HT7; have HX8 := Lib.hid hx7) | (go_at_call 72; refine (insert_any t q i (es.take 64) _ _ _ e c fi _ _ _ _ HQ8.out HT8.out hne (by rw [List.length_take, HL.out]; omega) (by rw [List.length_take, HL.out]; omega) c0 (by omega)).mono ?_; rintro y w9 ⟨rfl, hp9, ⟨ver9, ht9⟩, hc9⟩))
        first | go_end0 | refine bodyPost_ret (results_none rfl _ _ _) rfl ?_
        have d1 : Chg (fun b => (b = t ∨ b = q ∨ b = nb) ∨ b = x) w w1 := HC1.out.mono (fun k _ h => (.inl h))
        have d2 : Chg (fun b => (b = t ∨ b = q ∨ b = nb) ∨ b = x) w w2 := d1.next ((Chg.refl _ w1).drew.trans HC2.out) (fun k hk h => by have := HRB.out; omega)
        have d3 : Chg (fun b => (b = t ∨ b = q ∨ b = nb) ∨ b = x) w wr := d2.next HCH.out (fun k hk h => (.inl (.inr (.inl h))))
        have d5 : Chg (fun b => (b = t ∨ b = q ∨ b = nb) ∨ b = x) w ((wr.setCell ⟨q, 0, none⟩ (.int .i64 64)).setCell ⟨rb, 0, none⟩ (.int .i64 64)) := d3.next HC5.out (fun k hk h => by rcases h with h | h; exact (.inl (.inr (.inl h))); have := HRB.out; omega)
        have d8 : Chg (fun b => (b = t ∨ b = q ∨ b = nb) ∨ b = x) w w7 := d5.next hc7 (fun k hk h => .inr h)
        have d9 : Chg (fun b => (b = t ∨ b = q ∨ b = nb) ∨ b = x) w w9 := d8.next hc9 (fun k hk h => by rcases h with h | h; exact (.inl (.inl h)); exact (.inl (.inr (.inl h))))
        have hr9 := HR8.out.chg hc9 (by rintro (h | h); exact hrt h; exact hrq h)
        have hn9 := (((((HN1.out.chg ((Chg.refl _ w1).drew.trans HC2.out) hnr).chg HCH.out hnq).chg HC5.out (by rintro (h | h); exact hnq h; exact hnr h)).chg hc7 (fun h => hxn h.symm)).chg hc9 (by rintro (h | h); exact hnt h; exact hnq h))
        exact ⟨rfl, rb, _, ⟨by have := HRB.out; omega, ⟨_, ht9⟩, ⟨(es.take 64).take i ++ e :: (es.take 64).drop i, es.drop 64, _, _, halves_ahead h64', by simp [HL.out]; omega, by simp [HL.out]; omega, by rw [List.length_drop, HL.out]; decide, by rw [List.length_drop, HL.out]; decide, hp9, hr9⟩⟩, HX8.out.chg hc9 (by rintro (h | h); exact hxt h; exact hxq h), hn9, d9⟩

end Go.Proofs.YtffgkocokkhahaaDoor
