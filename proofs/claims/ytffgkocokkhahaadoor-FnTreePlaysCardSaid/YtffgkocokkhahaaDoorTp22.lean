/-
  clr, (*tree).Clear. || (*tree).Delete of an empty tree, of one page. PRINTED BY wip/tpl/gen_yde.py.
-/
import Derived.Test.YtffgkocokkhahaaDoorTp21
import Derived.Laws.Rows
import Derived.LaidEql

/- clr, (*tree).Clear. -/
namespace Go.Proofs.YtffgkocokkhahaaDoor
open Go.RowKit
variable {G : Value}

theorem zd_one : ∀ v ∈ Tryd.zeroCells132.toList, v.oneCell' = true := by
  intro v hv
  rw [zd_eq] at hv
  simp only [pgL, flat_nil, List.nil_append, List.mem_cons, List.mem_append, List.not_mem_nil, or_false] at hv
  rcases hv with rfl | hv | rfl | rfl
  · rfl
  · exact zroom_one v hv
  · rfl
  · rfl
theorem zd_size : Tryd.zeroCells132.size = 261 := by
  rw [zd_eq, List.size_toArray, pgL_length XE.cells 2 XE.two, zroom_len]
  rfl
theorem zx_one : ∀ v ∈ Tryd.zeroCells137.toList, v.oneCell' = true := by
  intro v hv
  rw [zx_eq] at hv
  simp only [zx, List.mem_cons] at hv
  rcases hv with rfl | rfl | hv
  · rfl
  · rfl
  · exact zrest_one v hv
theorem zx_size : Tryd.zeroCells137.size = 517 := by
  rw [zx_eq]
  simp [zx, zrest_len]

/-- A whole block is written over. -/
theorem store_all {g : Nat} {t : TypeId} {cur z : Array Value} {w : World} (hg : w.heap[g]? = some (.cells cur t (0, 0))) (hl : z.size = cur.size) (h1 : ∀ v ∈ z.toList, v.oneCell' = true) :
    (storeCells ⟨g, 0, none⟩ z.toList).run Tryd.prog w = .ok () (w.setRow g z) := by
  have h := run_storeCells_at (P := Tryd.prog) g 0 t z.toList 0 cur w hg (by simp; omega) h1
  rw [h]
  have e : cur.toList.take (0 + 0) ++ z.toList ++ cur.toList.drop (0 + 0 + z.toList.length) = z.toList := by
    rw [List.drop_of_length_le (by simp; omega)]
    simp
  rw [e]

theorem store_new {t : TypeId} {z : Array Value} {w : World} (h1 : ∀ v ∈ z.toList, v.oneCell' = true) :
    (storeCells ⟨w.heap.size, 0, none⟩ z.toList).run Tryd.prog (w.alloc (.cells z t)) = .ok () (w.alloc (.cells z t)) := by
  rw [store_all (heap_new w _) rfl h1, setRow_self _ _ _ _ _ (heap_new w _)]

theorem zd_info : (Tryd.prog.info? 132).map (·.size) = some Tryd.zeroCells132.size := by rw [zd_size]; kernel_rfl
theorem zx_info : (Tryd.prog.info? 137).map (·.size) = some Tryd.zeroCells137.size := by rw [zx_size]; kernel_rfl

set_option maxRecDepth 100000 in
set_option maxHeartbeats 1000000 in
theorem zd_any (w : World) : Calls Tryd.prog 112 #[] w fun e w' => e = .returned (.agg Tryd.zeroCells132) ∧ Below w.heap.size w w' := by
  have hst := store_new (t := 132) (w := w) zd_one
  have hlv := run_loadVar_row (P := Tryd.prog) (w.alloc (.cells Tryd.zeroCells132 132)) w.heap.size 132 132 _ (0, 0) _ (heap_new w _) Tryd.underlying132 rfl zd_info
  go_enter Tryd.func112, Tryd.ntmps112
  go_wp2
  exact bodyPost_ret (v := .agg Tryd.zeroCells132) (by simp [results, Tryd.results112, asAddr, hlv]) rfl ⟨rfl, (Below.refl _ _).alloc (Nat.le_refl _) _⟩

set_option maxRecDepth 100000 in
set_option maxHeartbeats 1000000 in
theorem zx_any (w : World) : Calls Tryd.prog 111 #[] w fun e w' => e = .returned (.agg Tryd.zeroCells137) ∧ Below w.heap.size w w' := by
  have hst := store_new (t := 137) (w := w) zx_one
  have hlv := run_loadVar_row (P := Tryd.prog) (w.alloc (.cells Tryd.zeroCells137 137)) w.heap.size 137 137 _ (0, 0) _ (heap_new w _) Tryd.underlying137 rfl zx_info
  go_enter Tryd.func111, Tryd.ntmps111
  go_wp2
  exact bodyPost_ret (v := .agg Tryd.zeroCells137) (by simp [results, Tryd.results111, asAddr, hlv]) rfl ⟨rfl, (Below.refl _ _).alloc (Nat.le_refl _) _⟩

set_option maxRecDepth 100000 in
set_option maxHeartbeats 1000000 in
/-- A page is cleared. -/
theorem clr_page (b : Nat) (es : List XE) (rest : List Value) (nx pv : Value) (w : World) (hq : PageAt w b es rest nx pv) :
    Calls Tryd.prog 78 #[.iface 123 (.pointer (some ⟨b, 0, none⟩))] w fun y w' => y = .returned (.tuple #[]) ∧ Chg (fun k => k = b) w w' := by
  have HQ := Lib.hid hq
  have HL := Lib.hid (page_len hq)
  clear hq
  go_enter Tryd.func78, Tryd.ntmps78
  go_wp2_with (go_at_call 112; refine (zd_any _).mono ?_; rintro y w1 ⟨rfl, hb1⟩; have HB1 := Lib.hid hb1; have hst := store_all (heap_below HQ.out.heap hb1) (z := Tryd.zeroCells132) (by rw [zd_size, List.size_toArray, HL.out]) zd_one; clear hb1)
  go_end0
  exact ⟨rfl, Chg.setRow (S := fun k => k = b) (Chg.of_below HB1.out) (.inl rfl) _⟩

theorem take_not {α : Type} {l : List α} {k : Nat} {b : α} (hn : l.Nodup) (h : l[k]? = some b) : b ∉ l.take k := by
  intro hm
  obtain ⟨i, hi, e⟩ := List.getElem_of_mem hm
  obtain ⟨hk, e2⟩ := List.getElem?_eq_some_iff.1 h
  have h1 : i < k ∧ i < l.length := by simp at hi; omega
  rw [List.getElem_take] at e
  have := (List.getElem_inj (h₀ := h1.2) (h₁ := hk) hn).1 (e.trans e2.symm)
  omega

set_option maxRecDepth 100000 in
set_option maxHeartbeats 1000000 in
/-- A root and its pages are cleared. -/
theorem clr_root {t x : Nat} {P : List Pg} {c : Int} {w : World} (h : Rooted G w t x P c) (hlen : P.length ≤ 200) :
    Calls Tryd.prog 78 #[.iface 126 (.pointer (some ⟨x, 0, none⟩))] w fun y w' => y = .returned (.tuple #[]) ∧ Chg (fun k => k = x ∨ k ∈ Blocks P) w w' := by
  obtain ⟨hxt, hne⟩ := h.ne
  obtain ⟨b0, bs, xr, hbl, hx⟩ := h.root
  obtain ⟨n, hn⟩ : ∃ n, n = bs.length := ⟨_, rfl⟩
  have hnl : n + 1 ≤ 200 := by
    have := congrArg List.length hbl
    simp [Blocks] at this
    omega
  have hxB : ∀ k, x ∉ (b0 :: bs).take k := fun k hm => by
    have hm2 := List.mem_of_mem_take hm
    rw [← hbl] at hm2
    obtain ⟨p, hp, e⟩ := List.mem_map.1 hm2
    exact (hne p hp).1 e
  have hpg : ∀ (k b : Nat), (b0 :: bs)[k]? = some b → ∃ es rest nx pv, PageAt w b es rest nx pv := fun k b hb => by
    rw [← hbl] at hb
    obtain ⟨p, hp, e⟩ := List.mem_map.1 (List.mem_of_getElem? hb)
    obtain ⟨rest, nx, pv, hq⟩ := chain_page h.chain p hp
    exact ⟨p.2, rest, nx, pv, by rw [← e]; exact hq⟩
  have hnd : (b0 :: bs).Nodup := by rw [← hbl]; exact h.nodup
  have HX := Lib.hid hx
  have HXB := Lib.hid hxB
  have HPG := Lib.hid hpg
  have HND := Lib.hid hnd
  have HBL := Lib.hid hbl
  have HN := Lib.hid hn
  clear h hx hxB hpg hnd hbl hn hne hxt
  go_enter Tryd.func78, Tryd.ntmps78
  go_wp2
  go_loopw [3] (fun i wr => ∃ k : Nat, k ≤ n + 1 ∧ i = .int .i64 k ∧ Chg (fun b => b ∈ (b0 :: bs).take k) w wr) (fun i _ => n + 1 - (intOf i).toNat)
  case atStart => exact ⟨0, by omega, rfl, Chg.refl _ _⟩
  case round =>
    obtain ⟨k, hk, rfl, hch⟩ := hrel
    have HCH := Lib.hid hch
    have HXr := Lib.hid (HX.out.chg hch (HXB.out k))
    have cx0 : wr.cell? ⟨x, 0, none⟩ = some (.int .i64 n) := by rw [HXr.out.cell, HN.out]; rfl
    clear hch
    by_cases hlt : k ≤ n
    · obtain ⟨b, hb⟩ : ∃ b, (b0 :: bs)[k]? = some b := ⟨_, List.getElem?_eq_getElem (by rw [List.length_cons, ← HN.out]; omega)⟩
      have cxk : wr.cell? ⟨x, 1 + k * 2, none⟩ = some (.iface 123 (.pointer (some ⟨b, 0, none⟩))) := HXr.out.ch hb
      obtain ⟨es, rest, nx, pv, hq⟩ := HPG.out k b hb
      have HCALL := Lib.hid (clr_page b es rest nx pv wr (hq.chg HCH.out (take_not HND.out hb)))
      have HB := Lib.hid hb
      have k1 : (k : Int) < 258 := by omega
      have k2 : (0 : Int) ≤ k := by omega
      have k3 : ((k : Int) ≤ n) = True := by simp; omega
      clear hq hb
      go_wp2_with (go_at_call 78; refine HCALL.out.mono ?_; rintro y w1 ⟨rfl, hc1⟩)
      refine ⟨⟨k + 1, by omega, by push_cast; rfl, (HCH.out.mono (fun z _ hz => ?_)).trans (hc1.mono (fun z _ hz => ?_))⟩, by simp [intOf]; omega⟩
      · rw [List.take_add_one]
        exact List.mem_append.2 (.inl hz)
      · rw [hz, List.take_add_one, HB.out]
        simp
    · have hke : k = n + 1 := by omega
      have k3 : ((k : Int) ≤ n) = False := by simp; omega
      have hfull : (b0 :: bs).take k = Blocks P := by rw [HBL.out, List.take_of_length_le (by rw [List.length_cons, ← HN.out]; omega)]
      have HCF := Lib.hid (show Chg (fun b => b ∈ Blocks P) w wr by rw [← hfull]; exact HCH.out)
      have hlx : (xgL b0 bs xr).length = 517 := by have := HXr.out.room; rw [xgL_length]; omega
      have HLX := Lib.hid hlx
      clear hfull hlx hke
      go_wp2_with (go_at_call 111; refine (zx_any _).mono ?_; rintro y w1 ⟨rfl, hb1⟩; have HB1 := Lib.hid hb1; have hst := store_all (heap_below HXr.out.heap hb1) (z := Tryd.zeroCells137) (by rw [zx_size, List.size_toArray, HLX.out]) zx_one; clear hb1)
      go_end0
      exact ⟨rfl, Chg.setRow (S := fun k => k = x ∨ k ∈ Blocks P) ((HCF.out.mono (fun _ _ h => .inr h)).trans (Chg.of_below HB1.out)) (.inl (.inl rfl)) _⟩

set_option maxRecDepth 100000 in
set_option maxHeartbeats 1000000 in
theorem clear_none {t : Nat} {ver : Int} {w : World} (ht : TreeW G w t 0 (.pointer none) (.pointer none) .nilIface ver) :
    Calls Tryd.prog 41 #[.pointer (some ⟨t, 0, none⟩)] w (GrowP G t [] (fun k => k = t) w) := by
  have ct4 : w.cell? ⟨t, 4, none⟩ = some .nilIface := cell_of_heap ht 4
  have HT := Lib.hid ht
  clear ht
  go_enter Tryd.func41, Tryd.ntmps41
  go_wp2
  go_end0
  exact ⟨rfl, _, .none ⟨ver, HT.out⟩, Chg.refl _ _, fun k hk => .inl hk⟩

set_option maxRecDepth 100000 in
set_option maxHeartbeats 1000000 in
theorem clear_some {t : Nat} {c ver : Int} {fi la ra : Value} {rt : TypeId} {w : World} {S : Nat → Prop} (ht : TreeW G w t c fi la (.iface rt ra) ver) (hS : ¬ S t)
    (H : Hid (Calls Tryd.prog 78 #[.iface rt ra] w fun y w' => y = .returned (.tuple #[]) ∧ Chg S w w')) :
    Calls Tryd.prog 41 #[.pointer (some ⟨t, 0, none⟩)] w (GrowP G t [] (fun k => k = t ∨ S k) w) := by
  have ct4 : w.cell? ⟨t, 4, none⟩ = some (.iface rt ra) := cell_of_heap ht 4
  have HT := Lib.hid ht
  clear ht
  go_enter Tryd.func41, Tryd.ntmps41
  go_wp2_with (go_at_call 78; refine H.out.mono ?_; rintro y w1 ⟨rfl, hc1⟩; have ht1 := HT.out.chg hc1 hS; have HT1 := Lib.hid ht1; have HC1 := Lib.hid hc1; have e0 := cell_of_heap ht1 0; have e2 := cell_of_heap ht1 2; have e3 := cell_of_heap ht1 3; have e4 := cell_of_heap ht1 4; have e5 := cell_of_heap ht1 5; have f0 := free_of_heap ht1 0; have f2 := free_of_heap ht1 2; have f3 := free_of_heap ht1 3; have f4 := free_of_heap ht1 4; have f5 := free_of_heap ht1 5; clear ht1 hc1)
  go_end0
  refine ⟨rfl, _, .none ⟨wrap64 (ver + 1), ?_⟩, ?_, fun k hk => .inl (.inl hk)⟩
  · unfold TreeW
    simp only [heap_setCell_at, show w1.heap[t]? = _ from HT1.out, Option.map_some, updObj_cells]
    rfl
  · exact Chg.setCell (Chg.setCell (Chg.setCell (Chg.setCell (Chg.setCell (HC1.out.mono (T := fun k => k = t ∨ S k) (fun _ _ h => .inr h)) (p := ⟨t, _, none⟩) (.inl (.inl rfl)) _) (p := ⟨t, _, none⟩) (.inl (.inl rfl)) _) (p := ⟨t, _, none⟩) (.inl (.inl rfl)) _) (p := ⟨t, _, none⟩) (.inl (.inl rfl)) _) (p := ⟨t, _, none⟩) (.inl (.inl rfl)) _

/-- Clear, whatever the tree. -/
theorem clear_any (t : Nat) (L : List XE) (S : Nat → Prop) (w : World) (hT : TreeAt G w t L S) (hlen : L.length ≤ 12800) :
    Calls Tryd.prog 41 #[.pointer (some ⟨t, 0, none⟩)] w (GrowP G t [] S w) := by
  cases hT with
  | none h => obtain ⟨ver, h⟩ := h; exact clear_none h
  | lone h =>
    have hne := h.ne
    obtain ⟨⟨ver, ht⟩, ⟨rest, hq⟩, _⟩ := h
    exact clear_some ht hne (Lib.hid (clr_page _ _ _ _ _ w hq))
  | many h =>
    rename_i x P
    have hl := h.pages
    obtain ⟨hxt, hne⟩ := h.ne
    obtain ⟨ver, ht⟩ := h.tree
    refine (clear_some (S := fun k => k = x ∨ k ∈ Blocks P) ht (by
      rintro (e | e)
      · exact hxt e.symm
      · obtain ⟨p, hp, e2⟩ := List.mem_map.1 e
        exact (hne p hp).2 e2) (Lib.hid (clr_root h (by omega)))).mono ?_
    rintro y w' ⟨rfl, S', h1, h2, h3⟩
    refine ⟨rfl, S', h1, h2.mono (fun k _ hk => ?_), fun k hk => (h3 k hk).imp (fun hk => ?_) id⟩
    · rcases hk with hk | hk | hk
      · exact .inl (.inl hk)
      · exact .inl (.inr hk)
      · exact .inr hk
    · rcases hk with hk | hk | hk
      · exact .inl (.inl hk)
      · exact .inl (.inr hk)
      · exact .inr hk

end Go.Proofs.YtffgkocokkhahaaDoor

/- (*tree).Delete of an empty tree, of one page. PRINTED BY wip/tpl/gen_yde.py. -/
namespace Go.Proofs.YtffgkocokkhahaaDoor
open Go.RowKit
variable {dsc : Bool} {G : Value}

theorem dComp : (Tryd.prog.info? 123).map (·.comparable) = some true := by kernel_rfl
theorem xComp : (Tryd.prog.info? 126).map (·.comparable) = some true := by kernel_rfl
theorem dSize : (Tryd.prog.info? 132).map (fun i => i.size == 0) = some false := by kernel_rfl
theorem xSize : (Tryd.prog.info? 137).map (fun i => i.size == 0) = some false := by kernel_rfl
@[go_sem] theorem neq_dd (a : Addr) (w : World) : (binOp .neq 20 (.iface 123 (.pointer (some a))) (.iface 123 (.pointer (some a)))).run Tryd.prog w = .ok (.bool false) w := by
  obtain ⟨i, hi, hcmp⟩ := Option.map_eq_some_iff.1 dComp
  obtain ⟨j, hj, _⟩ := Option.map_eq_some_iff.1 dSize
  simp only [binOp]
  simp [Op.equal, Op.maxDepth, run_equalIn_iface_ptr_same w 9998 a Tryd.underlying20 Tryd.underlying123 hi hcmp hj]
@[go_sem] theorem neq_xx (a : Addr) (w : World) : (binOp .neq 20 (.iface 126 (.pointer (some a))) (.iface 126 (.pointer (some a)))).run Tryd.prog w = .ok (.bool false) w := by
  obtain ⟨i, hi, hcmp⟩ := Option.map_eq_some_iff.1 xComp
  obtain ⟨j, hj, _⟩ := Option.map_eq_some_iff.1 xSize
  simp only [binOp]
  simp [Op.equal, Op.maxDepth, run_equalIn_iface_ptr_same w 9998 a Tryd.underlying20 Tryd.underlying126 hi hcmp hj]
@[go_sem] theorem neq_dx (a b : Option Addr) (w : World) : (binOp .neq 20 (.iface 123 (.pointer a)) (.iface 126 (.pointer b))).run Tryd.prog w = .ok (.bool true) w := by
  have h : ∀ n : Nat, (Op.equalIn (n + 1) 20 (.iface 123 (.pointer a)) (.iface 126 (.pointer b))).run Tryd.prog w = .ok false w := fun n => by
    simp [Op.equalIn, run_underlying Tryd.underlying20]
  simp only [binOp]
  simp [Op.equal, Op.maxDepth, h 9999]

def DelP (G : Value) (t : Nat) (L : List XE) (S : Nat → Prop) (ok : Bool) (w : World) (y : Ending) (w' : World) : Prop :=
  y = .returned (.bool ok) ∧ ∃ S', TreeAt G w' t L S' ∧ Chg S w w' ∧ ∀ k, S' k → S k ∨ w.heap.size ≤ k

theorem TreeAt.belowS {w w' : World} {t : Nat} {L : List XE} {S : Nat → Prop} (h : TreeAt (cmpV dsc) w t L S) (hb : Below w.heap.size w w') : TreeAt (cmpV dsc) w' t L S := by
  cases h with
  | none h => obtain ⟨ver, h⟩ := h; exact .none ⟨ver, heap_below h hb⟩
  | lone h =>
    obtain ⟨⟨ver, ht⟩, ⟨rest, hq⟩, hs⟩ := h
    exact .lone ⟨⟨ver, heap_below ht hb⟩, ⟨rest, hq.below hb⟩, hs⟩
  | many h => exact .many (h.below hb)

set_option maxRecDepth 100000 in
set_option maxHeartbeats 1000000 in
theorem del_none (t : Nat) (A : Option Addr) (m p : Nat) (ver : Int) (w : World) (ht : TreeW G w t 0 (.pointer none) (.pointer none) .nilIface ver) :
    Calls Tryd.prog 40 #[.pointer (some ⟨t, 0, none⟩), .slice A m p] w (DelP G t [] (fun k => k = t) false w) := by
  have ct4 : w.cell? ⟨t, 4, none⟩ = some .nilIface := cell_of_heap ht 4
  have HT := Lib.hid ht
  clear ht
  go_enter Tryd.func40, Tryd.ntmps40
  go_wp2
  go_ret
  exact ⟨rfl, _, .none ⟨ver, HT.out⟩, Chg.refl _ _, fun k hk => .inl hk⟩

set_option maxRecDepth 100000 in
set_option maxHeartbeats 1000000 in
theorem del_lone_miss (t b i : Nat) (es : List XE) (A : Option Addr) (m p : Nat) (cs : Nat → Int) (w : World) (hL : Lone (cmpV dsc) w t b es es.length) (ha : Asks dsc w (.slice A m p) es cs) (hp : Pos cs es.length i false) :
    Calls Tryd.prog 40 #[.pointer (some ⟨t, 0, none⟩), .slice A m p] w (DelP (cmpV dsc) t es (fun k => k = t ∨ k = b) false w) := by
  have HF := find_lone hL ha hp
  have HL := Lib.hid hL
  obtain ⟨⟨ver, ht⟩, _⟩ := hL
  have ct4 : w.cell? ⟨t, 4, none⟩ = some (.iface 123 (.pointer (some ⟨b, 0, none⟩))) := cell_of_heap ht 4
  have lt := lt_of_heap ht
  have HB0 := Lib.hid (show Below w.heap.size w (w.alloc (.cells #[.int .i64 0] 3)) from (Below.refl _ _).alloc (Nat.le_refl _) _)
  have lb0 : w.heap.size < (w.alloc (.cells #[.int .i64 0] 3)).heap.size := by simp
  have cb0 : (w.alloc (.cells #[.int .i64 0] 3)).cell? ⟨w.heap.size, 0, none⟩ = some (.int .i64 0) := cell_of_heap (heap_new w _) 0
  have fc0 : (w.alloc (.cells #[.int .i64 0] 3)).frozen? ⟨w.heap.size, 0, none⟩ = false := free_of_heap (heap_new w _) 0
  clear ht ha hp
  go_enter Tryd.func40, Tryd.ntmps40
  go_wp2_with fail
  refine wp_loop_rounds 1 ?_
  rw [rounds_succ]
  go_wp2_with (go_at_call 70; refine (HF.out _ HB0.out).mono ?_; rintro y w1 ⟨rfl, hb1⟩; have db0 := (hb1.cell (p := ⟨w.heap.size, 0, none⟩) lb0).trans cb0; have fb0 := (hb1.frozen (p := ⟨w.heap.size, 0, none⟩) lb0).trans fc0; have HB1 := Lib.hid (up_below' HB0.out hb1); have HB2 := Lib.hid (HB1.out.setCell (p := ⟨w.heap.size, 0, none⟩) (Nat.le_refl _) (.int .i64 i)); clear hb1)
  go_ret
  exact ⟨rfl, _, (TreeAt.lone HL.out).belowS HB2.out, Chg.of_below HB2.out, fun k hk => .inl hk⟩

set_option maxRecDepth 100000 in
set_option maxHeartbeats 1000000 in
theorem del_lone_big (t b i : Nat) (es : List XE) (A : Option Addr) (m p : Nat) (cs : Nat → Int) (w : World) (hL : Lone (cmpV dsc) w t b es es.length) (ha : Asks dsc w (.slice A m p) es cs) (hp : Pos cs es.length i true) (hn : 65 ≤ es.length) :
    Calls Tryd.prog 40 #[.pointer (some ⟨t, 0, none⟩), .slice A m p] w (DelP (cmpV dsc) t (es.eraseIdx i) (fun k => k = t ∨ k = b) true w) := by
  have HF := find_lone hL ha hp
  have hne := hL.ne
  have hsz := hL.size
  obtain ⟨⟨ver, ht⟩, ⟨rest, hq⟩, _⟩ := hL
  have ct4 : w.cell? ⟨t, 4, none⟩ = some (.iface 123 (.pointer (some ⟨b, 0, none⟩))) := cell_of_heap ht 4
  have lt := lt_of_heap ht
  have lb := hq.lt
  have hi : i < es.length := (hp.hit rfl).1
  obtain ⟨n, hm⟩ : ∃ n, es.length = n + 1 := ⟨es.length - 1, by omega⟩
  have he : (es.eraseIdx i).length = n := by rw [List.length_eraseIdx_of_lt hi]; omega
  have hn64 : ((64 : Int) ≤ n) = True := by simp; omega
  have HQ := Lib.hid hq
  have HT := Lib.hid ht
  have HI := Lib.hid hi
  have HE := Lib.hid he
  have HM := Lib.hid hm
  have HN := Lib.hid hsz
  have HB0 := Lib.hid (show Below w.heap.size w (w.alloc (.cells #[.int .i64 0] 3)) from (Below.refl _ _).alloc (Nat.le_refl _) _)
  have lb0 : w.heap.size < (w.alloc (.cells #[.int .i64 0] 3)).heap.size := by simp
  have cb0 : (w.alloc (.cells #[.int .i64 0] 3)).cell? ⟨w.heap.size, 0, none⟩ = some (.int .i64 0) := cell_of_heap (heap_new w _) 0
  have fc0 : (w.alloc (.cells #[.int .i64 0] 3)).frozen? ⟨w.heap.size, 0, none⟩ = false := free_of_heap (heap_new w _) 0
  clear hq ht ha hp hi he hm hsz
  go_enter Tryd.func40, Tryd.ntmps40
  go_wp2_with fail
  refine wp_loop_rounds 1 ?_
  rw [rounds_succ]
  go_wp2_with (first
    | (go_at_call 70; refine (HF.out _ HB0.out).mono ?_; rintro y w1 ⟨rfl, hb1⟩; have db0 := (hb1.cell (p := ⟨w.heap.size, 0, none⟩) lb0).trans cb0; have fb0 := (hb1.frozen (p := ⟨w.heap.size, 0, none⟩) lb0).trans fc0; have HB1 := Lib.hid (up_below' HB0.out hb1); have HB2 := Lib.hid (HB1.out.setCell (p := ⟨w.heap.size, 0, none⟩) (Nat.le_refl _) (.int .i64 i)); clear hb1)
    | (go_at_call 75; refine (extract_any t b i es rest _ _ _ _ _ _ ver _ (HQ.out.below HB2.out) (heap_below HT.out HB2.out) hne HI.out (by omega) (by have := HN.out; omega)).mono ?_; rintro y w2 ⟨rfl, ⟨rest2, hp2⟩, ⟨ver2, ht2⟩, hc2⟩; rw [show ((es.length : Nat) : Int) - 1 = (n : Int) by have := HM.out; omega] at ht2; have e0 : w2.cell? ⟨b, 0, none⟩ = some (.int .i64 n) := (by rw [hp2.cell, pgL_count, HE.out]); have e4 : w2.cell? ⟨t, 4, none⟩ = some (.iface 123 (.pointer (some ⟨b, 0, none⟩))) := cell_of_heap ht2 4; have et0 := cell_of_heap ht2 0; have HP2 := Lib.hid hp2; have HT2 := Lib.hid ht2; have HC2 := Lib.hid hc2; clear hp2 ht2 hc2)
    )
  go_ret

  refine ⟨rfl, _, .lone (b := b) ⟨⟨ver2, ?_⟩, ⟨rest2, HP2.out⟩, by rw [HE.out]; have := HN.out; have := HM.out; omega⟩, (Chg.of_below HB2.out).next HC2.out (fun k _ h => h), fun k hk => .inl hk⟩
  rw [HE.out]
  exact HT2.out

set_option maxRecDepth 100000 in
set_option maxHeartbeats 1000000 in
theorem del_lone_mid (t b i : Nat) (es : List XE) (A : Option Addr) (m p : Nat) (cs : Nat → Int) (w : World) (hL : Lone (cmpV dsc) w t b es es.length) (ha : Asks dsc w (.slice A m p) es cs) (hp : Pos cs es.length i true) (hn : 2 ≤ es.length) (hn2 : es.length ≤ 64) :
    Calls Tryd.prog 40 #[.pointer (some ⟨t, 0, none⟩), .slice A m p] w (DelP (cmpV dsc) t (es.eraseIdx i) (fun k => k = t ∨ k = b) true w) := by
  have HF := find_lone hL ha hp
  have hne := hL.ne
  have hsz := hL.size
  obtain ⟨⟨ver, ht⟩, ⟨rest, hq⟩, _⟩ := hL
  have ct4 : w.cell? ⟨t, 4, none⟩ = some (.iface 123 (.pointer (some ⟨b, 0, none⟩))) := cell_of_heap ht 4
  have lt := lt_of_heap ht
  have lb := hq.lt
  have hi : i < es.length := (hp.hit rfl).1
  obtain ⟨n, hm⟩ : ∃ n, es.length = n + 1 := ⟨es.length - 1, by omega⟩
  have he : (es.eraseIdx i).length = n := by rw [List.length_eraseIdx_of_lt hi]; omega
  have hn64 : ((64 : Int) ≤ n) = False := by simp; omega
  have hn0 : ((n : Int) == 0) = false := by simp; omega
  have HQ := Lib.hid hq
  have HT := Lib.hid ht
  have HI := Lib.hid hi
  have HE := Lib.hid he
  have HM := Lib.hid hm
  have HN := Lib.hid hsz
  have HB0 := Lib.hid (show Below w.heap.size w (w.alloc (.cells #[.int .i64 0] 3)) from (Below.refl _ _).alloc (Nat.le_refl _) _)
  have lb0 : w.heap.size < (w.alloc (.cells #[.int .i64 0] 3)).heap.size := by simp
  have cb0 : (w.alloc (.cells #[.int .i64 0] 3)).cell? ⟨w.heap.size, 0, none⟩ = some (.int .i64 0) := cell_of_heap (heap_new w _) 0
  have fc0 : (w.alloc (.cells #[.int .i64 0] 3)).frozen? ⟨w.heap.size, 0, none⟩ = false := free_of_heap (heap_new w _) 0
  clear hq ht ha hp hi he hm hsz
  go_enter Tryd.func40, Tryd.ntmps40
  go_wp2_with fail
  refine wp_loop_rounds 1 ?_
  rw [rounds_succ]
  go_wp2_with (first
    | (go_at_call 70; refine (HF.out _ HB0.out).mono ?_; rintro y w1 ⟨rfl, hb1⟩; have db0 := (hb1.cell (p := ⟨w.heap.size, 0, none⟩) lb0).trans cb0; have fb0 := (hb1.frozen (p := ⟨w.heap.size, 0, none⟩) lb0).trans fc0; have HB1 := Lib.hid (up_below' HB0.out hb1); have HB2 := Lib.hid (HB1.out.setCell (p := ⟨w.heap.size, 0, none⟩) (Nat.le_refl _) (.int .i64 i)); clear hb1)
    | (go_at_call 75; refine (extract_any t b i es rest _ _ _ _ _ _ ver _ (HQ.out.below HB2.out) (heap_below HT.out HB2.out) hne HI.out (by omega) (by have := HN.out; omega)).mono ?_; rintro y w2 ⟨rfl, ⟨rest2, hp2⟩, ⟨ver2, ht2⟩, hc2⟩; rw [show ((es.length : Nat) : Int) - 1 = (n : Int) by have := HM.out; omega] at ht2; have e0 : w2.cell? ⟨b, 0, none⟩ = some (.int .i64 n) := (by rw [hp2.cell, pgL_count, HE.out]); have e4 : w2.cell? ⟨t, 4, none⟩ = some (.iface 123 (.pointer (some ⟨b, 0, none⟩))) := cell_of_heap ht2 4; have et0 := cell_of_heap ht2 0; have HP2 := Lib.hid hp2; have HT2 := Lib.hid ht2; have HC2 := Lib.hid hc2; clear hp2 ht2 hc2)
    )
  go_ret

  refine ⟨rfl, _, .lone (b := b) ⟨⟨ver2, ?_⟩, ⟨rest2, HP2.out⟩, by rw [HE.out]; have := HN.out; have := HM.out; omega⟩, (Chg.of_below HB2.out).next HC2.out (fun k _ h => h), fun k hk => .inl hk⟩
  rw [HE.out]
  exact HT2.out

set_option maxRecDepth 100000 in
set_option maxHeartbeats 1000000 in
theorem del_lone_one (t b i : Nat) (es : List XE) (A : Option Addr) (m p : Nat) (cs : Nat → Int) (w : World) (hL : Lone (cmpV dsc) w t b es es.length) (ha : Asks dsc w (.slice A m p) es cs) (hp : Pos cs es.length i true) (hn : es.length = 1) :
    Calls Tryd.prog 40 #[.pointer (some ⟨t, 0, none⟩), .slice A m p] w (DelP (cmpV dsc) t [] (fun k => k = t ∨ k = b) true w) := by
  have HF := find_lone hL ha hp
  have hne := hL.ne
  have hsz := hL.size
  obtain ⟨⟨ver, ht⟩, ⟨rest, hq⟩, _⟩ := hL
  have ct4 : w.cell? ⟨t, 4, none⟩ = some (.iface 123 (.pointer (some ⟨b, 0, none⟩))) := cell_of_heap ht 4
  have lt := lt_of_heap ht
  have lb := hq.lt
  have hi : i < es.length := (hp.hit rfl).1
  obtain ⟨n, hm⟩ : ∃ n, es.length = n + 1 := ⟨es.length - 1, by omega⟩
  have he : (es.eraseIdx i).length = n := by rw [List.length_eraseIdx_of_lt hi]; omega
  have hn64 : ((64 : Int) ≤ n) = False := by simp; omega
  have hn0 : ((n : Int) == 0) = true := by simp; omega
  have HQ := Lib.hid hq
  have HT := Lib.hid ht
  have HI := Lib.hid hi
  have HE := Lib.hid he
  have HM := Lib.hid hm
  have HN := Lib.hid hsz
  have HB0 := Lib.hid (show Below w.heap.size w (w.alloc (.cells #[.int .i64 0] 3)) from (Below.refl _ _).alloc (Nat.le_refl _) _)
  have lb0 : w.heap.size < (w.alloc (.cells #[.int .i64 0] 3)).heap.size := by simp
  have cb0 : (w.alloc (.cells #[.int .i64 0] 3)).cell? ⟨w.heap.size, 0, none⟩ = some (.int .i64 0) := cell_of_heap (heap_new w _) 0
  have fc0 : (w.alloc (.cells #[.int .i64 0] 3)).frozen? ⟨w.heap.size, 0, none⟩ = false := free_of_heap (heap_new w _) 0
  clear hq ht ha hp hi he hm hsz
  go_enter Tryd.func40, Tryd.ntmps40
  go_wp2_with fail
  refine wp_loop_rounds 1 ?_
  rw [rounds_succ]
  go_wp2_with (first
    | (go_at_call 70; refine (HF.out _ HB0.out).mono ?_; rintro y w1 ⟨rfl, hb1⟩; have db0 := (hb1.cell (p := ⟨w.heap.size, 0, none⟩) lb0).trans cb0; have fb0 := (hb1.frozen (p := ⟨w.heap.size, 0, none⟩) lb0).trans fc0; have HB1 := Lib.hid (up_below' HB0.out hb1); have HB2 := Lib.hid (HB1.out.setCell (p := ⟨w.heap.size, 0, none⟩) (Nat.le_refl _) (.int .i64 i)); clear hb1)
    | (go_at_call 75; refine (extract_any t b i es rest _ _ _ _ _ _ ver _ (HQ.out.below HB2.out) (heap_below HT.out HB2.out) hne HI.out (by omega) (by have := HN.out; omega)).mono ?_; rintro y w2 ⟨rfl, ⟨rest2, hp2⟩, ⟨ver2, ht2⟩, hc2⟩; rw [show ((es.length : Nat) : Int) - 1 = (n : Int) by have := HM.out; omega] at ht2; have e0 : w2.cell? ⟨b, 0, none⟩ = some (.int .i64 n) := (by rw [hp2.cell, pgL_count, HE.out]); have e4 : w2.cell? ⟨t, 4, none⟩ = some (.iface 123 (.pointer (some ⟨b, 0, none⟩))) := cell_of_heap ht2 4; have et0 := cell_of_heap ht2 0; have HP2 := Lib.hid hp2; have HT2 := Lib.hid ht2; have HC2 := Lib.hid hc2; clear hp2 ht2 hc2)
    | (go_at_call 41; refine (clear_some HT2.out (S := fun k => k = b) hne (Lib.hid (clr_page b _ _ _ _ w2 HP2.out))).mono ?_; rintro y w3 ⟨rfl, S3, h3, hc3, hS3⟩)
    )
  go_ret

  exact ⟨rfl, S3, h3, ((Chg.of_below HB2.out).next HC2.out (fun k _ h => h)).next hc3 (fun k _ h => h), fun k hk => (hS3 k hk).imp id (fun h => by have h1 := HB2.out.size; have h2 := HC2.out.size; omega)⟩

end Go.Proofs.YtffgkocokkhahaaDoor
