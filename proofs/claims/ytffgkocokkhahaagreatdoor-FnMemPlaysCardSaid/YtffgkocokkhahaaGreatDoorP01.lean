/-
  (*xtree).overflow under a root. PRINTED BY wip/tpl/gen_xr.py. || (*xtree).overflow under a root: the tree that comes of it. || Walking the tree: each entry in its turn, on and back. || Walking the index: (*xenumerator2).Next, Prev, not unique. PRINTED BY wip/tpl/gen_xk.py. || The first and the last entry of an index. || Where a key stands: which page, and where in it. || (*xtree).Set of a key that is not there. || (*xtree).Set of a key that is not there, under a root. || (*mem).newUndo: what can be taken back is kept. || A new index of a new memory store: BeginTransaction, clone of nothing, Create of the first row, Commit, newMemStorage, newMemIndex, ZZNewIndex. || (*mem).Create of a new store's first row. || A new memory store; a new index of it: newMemStorage, xtreeNew, newMemIndex, ZZNewIndex. || (*memIndex).Create of an index that is not unique.
-/
import Derived.Test.YtffgkocokkhahaaGreatDoorXo
import Derived.Test.YtffgkocokkhahaaGreatDoorXh
import Derived.LoopN
import Derived.Outline
import Derived.Test.YtffgkocokkhahaaGreatDoorRd
import Derived.Deep.RegionLaw
import Derived.Deep.AppendLies
import Derived.Test.YtffgkocokkhahaaGreatDoorSl4

/- (*xtree).overflow under a root. PRINTED BY wip/tpl/gen_xr.py. -/
namespace Go.Proofs.YtffgkocokkhahaaGreatDoor
open Go.RowKit

set_option maxRecDepth 100000 in
set_option maxHeartbeats 1000000 in
theorem ov_room_any_any (t q x b0 k : Nat) (bs : List Nat) (es : List XE) (sq xr : List Value) (nq pq : Value) (e : XE) (c : Int) (fi la r : Value) (ver : Int) (w : World) (i : Nat) (lb : Nat) (ls : List XE) (sl : List Value) (nl pl : Value)
    (hq : PageAt w q es sq nq pq) (ht : TreeW w t c fi la r ver) (hx : RootAt w x b0 bs xr) (hk : k ≤ bs.length) (hbs : bs.length ≤ 250) (hl : es.length = 128) (c0 : 0 ≤ c) (c1 : c ≤ 2147483646) (hsl : sibL (b0 :: bs) k = some lb) (hlp : PageAt w lb ls sl nl pl) (hlq : ¬ lb = q) (hll : ls.length < 128) (hi : i ≤ 128) (hi1 : 1 ≤ i) :
    Calls Tryz.prog 86 #[.pointer (some ⟨t, 0, none⟩), .pointer (some ⟨x, 0, none⟩), .pointer (some ⟨q, 0, none⟩), .int .i64 k, .int .i64 i, .agg #[.slice e.A e.m e.p, .int .i64 e.h], .int .i64 e.n] w
      (fun y w' => y = .returned (.tuple #[]) ∧ (∃ s, PageAt w' lb (ls ++ es.take 1) s nl pl) ∧ (∃ s, PageAt w' q ((es.drop 1).take (i - 1) ++ e :: (es.drop 1).drop (i - 1)) s nq pq) ∧ (∃ v, TreeW w' t (c + 1) fi la r v) ∧ Chg (fun b => b = t ∨ b = lb ∨ b = q) w w') := by
  have hqt := tag_ne hq.heap ht (by decide)
  have hxt := tag_ne hx.heap ht (by decide)
  have hxq := tag_ne hx.heap hq.heap (by decide)
  have htq : ¬ t = q := fun h => hqt h.symm
  have hlt := tag_ne hlp.heap ht (by decide)
  obtain ⟨ht1, hc1, hb1⟩ := over_start e ht
  have ct4 : w.cell? ⟨t, 4, none⟩ = some (.int .i64 ver) := cell_of_heap ht 4
  have ft4 : w.frozen? ⟨t, 4, none⟩ = false := free_of_heap ht 4
  have lt := lt_of_heap ht
  have HT1 := Lib.hid ht1
  have HC1 := Lib.hid hc1
  have HQ1 := Lib.hid (hq.chg hc1 hqt)
  have HX1 := Lib.hid (hx.chg hc1 hxt)
  have HBK := Lib.hid hb1
  have HL1 := Lib.hid (hlp.chg hc1 hlt)
  have cl0 : ((w.setCell ⟨t, 4, none⟩ (.int .i64 (wrap64 (ver + 1)))).alloc (.cells #[.slice e.A e.m e.p, .int .i64 e.h] 136)).cell? ⟨lb, 0, none⟩ = some (.int .i64 ls.length) := by rw [HL1.out.cell]; rfl
  have hlc : ((ls.length : Int) < 128) = True := by simp; omega
  have cb0 := cell_of_heap hb1 0
  have cb1 := cell_of_heap hb1 1
  have HL := Lib.hid hl
  have LQ := Lib.hid hq.lt
  have LB := Lib.hid (lt_of_heap hb1)
  have hsib := fun w' (h : RootAt w' x b0 bs xr) => siblings_some x b0 bs xr k w' h hk (by omega)
  rw [hsl, show pgPtr (some lb) = .pointer (some ⟨lb, 0, none⟩) from rfl] at hsib
  obtain ⟨RV, hRV⟩ : ∃ RV, pgPtr (sibR (b0 :: bs) k) = RV := ⟨_, rfl⟩
  rw [hRV] at hsib
  have HS := Lib.hid hsib
  clear hsib hsl ht hq ht1 hc1 hb1 hl hx hlp hRV
  obtain ⟨j, hj⟩ : ∃ j, j = i - 1 := ⟨_, rfl⟩
  have hj1 : (i : Int) - 1 = ↑j := by omega
  rw [← hj]
  have hj2 : j ≤ 127 := by omega
  clear hj
  have hbl : ¬ w.heap.size = lb := fun h => by have h1 := HBK.out; rw [h, HL1.out.heap] at h1; injection h1 with h1; injection h1 with _ h1; exact absurd h1 (by decide)
  have hbq : ¬ w.heap.size = q := fun h => by have := LQ.out; omega
  go_enter Tryz.func86, Tryz.ntmps86
  go_wp2_with (first | (go_at_call 111; refine (HS.out _ HX1.out).mono ?_; rintro y w' ⟨rfl, rfl⟩) | (go_at_call 112; refine (mvL_any lb q 1 ls es _ _ _ _ _ _ _ HL1.out HQ1.out hlq (by rw [HL.out]; omega) (by omega) (by omega) (by rw [HL.out]; omega)).mono ?_; rintro y w2 ⟨rfl, ⟨s1, hp1⟩, ⟨s2, hp2⟩, hc2⟩; have HP1 := Lib.hid hp1; have HP2 := Lib.hid hp2; have HT2 := Lib.hid (HT1.out.chg hc2 (by rintro (h | h); exact hlt h.symm; exact htq h)); have hb2 := heap_chg HBK.out hc2 (by have := LQ.out; have := HL1.out.lt; rintro (h | h); exact hbl h; exact hbq h); have db0 := cell_of_heap hb2 0; have db1 := cell_of_heap hb2 1) | (go_at_call 85; refine (insert_any t q j (es.drop 1) _ _ _ e c fi la r _ _ HP2.out HT2.out htq (by rw [List.length_drop, HL.out]; omega) (by rw [List.length_drop, HL.out]; omega) c0 (by omega)).mono ?_; rintro y w3 ⟨rfl, hp3, ht3, hc3⟩))
  first | go_end0 | refine bodyPost_ret (results_none rfl _ _ _) rfl ?_
  exact ⟨rfl, ⟨_, HP1.out.chg hc3 (by rintro (h | h); exact hlt h; exact hlq h)⟩, ⟨_, hp3⟩, ht3, ((HC1.out.mono (T := fun b => b = t ∨ b = lb ∨ b = q) (fun k _ h => .inl h)).next hc2 (fun k _ h => .inr h)).next hc3 (fun k _ h => by rcases h with h | h; exact .inl h; exact .inr (.inr h))⟩

set_option maxRecDepth 100000 in
set_option maxHeartbeats 1000000 in
theorem ov_none_room_lt (t q x b0 k : Nat) (bs : List Nat) (es : List XE) (sq xr : List Value) (nq pq : Value) (e : XE) (c : Int) (fi la r : Value) (ver : Int) (w : World) (i : Nat) (rb : Nat) (rs : List XE) (sr : List Value) (nr pr : Value)
    (hq : PageAt w q es sq nq pq) (ht : TreeW w t c fi la r ver) (hx : RootAt w x b0 bs xr) (hk : k ≤ bs.length) (hbs : bs.length ≤ 250) (hl : es.length = 128) (c0 : 0 ≤ c) (c1 : c ≤ 2147483646) (hsl : sibL (b0 :: bs) k = none) (hsr : sibR (b0 :: bs) k = some rb) (hrp : PageAt w rb rs sr nr pr) (hrq : ¬ rb = q) (hrl : rs.length < 128) (hi : i < 128) :
    Calls Tryz.prog 86 #[.pointer (some ⟨t, 0, none⟩), .pointer (some ⟨x, 0, none⟩), .pointer (some ⟨q, 0, none⟩), .int .i64 k, .int .i64 i, .agg #[.slice e.A e.m e.p, .int .i64 e.h], .int .i64 e.n] w
      (fun y w' => y = .returned (.tuple #[]) ∧ (∃ s, PageAt w' q ((es.take 127).take i ++ e :: (es.take 127).drop i) s nq pq) ∧ (∃ s, PageAt w' rb (es.drop 127 ++ rs) s nr pr) ∧ (∃ v, TreeW w' t (c + 1) fi la r v) ∧ Chg (fun b => b = t ∨ b = q ∨ b = rb) w w') := by
  have hqt := tag_ne hq.heap ht (by decide)
  have hxt := tag_ne hx.heap ht (by decide)
  have hxq := tag_ne hx.heap hq.heap (by decide)
  have htq : ¬ t = q := fun h => hqt h.symm
  have hrt := tag_ne hrp.heap ht (by decide)
  have hxr := tag_ne hx.heap hrp.heap (by decide)
  obtain ⟨ht1, hc1, hb1⟩ := over_start e ht
  have ct4 : w.cell? ⟨t, 4, none⟩ = some (.int .i64 ver) := cell_of_heap ht 4
  have ft4 : w.frozen? ⟨t, 4, none⟩ = false := free_of_heap ht 4
  have lt := lt_of_heap ht
  have HT1 := Lib.hid ht1
  have HC1 := Lib.hid hc1
  have HQ1 := Lib.hid (hq.chg hc1 hqt)
  have HX1 := Lib.hid (hx.chg hc1 hxt)
  have HBK := Lib.hid hb1
  have HR1 := Lib.hid (hrp.chg hc1 hrt)
  have cr0 : ((w.setCell ⟨t, 4, none⟩ (.int .i64 (wrap64 (ver + 1)))).alloc (.cells #[.slice e.A e.m e.p, .int .i64 e.h] 136)).cell? ⟨rb, 0, none⟩ = some (.int .i64 rs.length) := by rw [HR1.out.cell]; rfl
  have hrc : ((rs.length : Int) < 128) = True := by simp; omega
  have cb0 := cell_of_heap hb1 0
  have cb1 := cell_of_heap hb1 1
  have HL := Lib.hid hl
  have LQ := Lib.hid hq.lt
  have LB := Lib.hid (lt_of_heap hb1)
  have hsib := fun w' (h : RootAt w' x b0 bs xr) => siblings_some x b0 bs xr k w' h hk (by omega)
  rw [hsl, show pgPtr none = .pointer none from rfl] at hsib
  rw [hsr, show pgPtr (some rb) = .pointer (some ⟨rb, 0, none⟩) from rfl] at hsib
  have HS := Lib.hid hsib
  clear hsib hsl ht hq ht1 hc1 hb1 hl hx hrp hsr
  have hic : (i : Int) < 128 := by omega
  have hbq : ¬ w.heap.size = q := fun h => by have := LQ.out; omega
  have hbr : ¬ w.heap.size = rb := fun h => by have h1 := HBK.out; rw [h, HR1.out.heap] at h1; injection h1 with h1; injection h1 with _ h1; exact absurd h1 (by decide)
  go_enter Tryz.func86, Tryz.ntmps86
  go_wp2_with (first | (go_at_call 111; refine (HS.out _ HX1.out).mono ?_; rintro y w' ⟨rfl, rfl⟩) | (go_at_call 113; refine (mvR_any q rb 1 es rs _ _ _ _ _ _ _ HQ1.out HR1.out (fun h => hrq h.symm) (by rw [HL.out]; omega) (by omega) (by rw [HL.out]; omega)).mono ?_; rintro y w2 ⟨rfl, ⟨s1, hp1⟩, ⟨s2, hp2⟩, hc2⟩; rw [HL.out] at hp1 hp2; have HP1 := Lib.hid hp1; have HP2 := Lib.hid hp2; have HT2 := Lib.hid (HT1.out.chg hc2 (by rintro (h | h); exact htq h; exact hrt h.symm)); have hb2 := heap_chg HBK.out hc2 (by rintro (h | h); exact hbq h; exact hbr h); have db0 := cell_of_heap hb2 0; have db1 := cell_of_heap hb2 1) | (go_at_call 85; refine (insert_any t q i (es.take 127) _ _ _ e c fi la r _ _ HP1.out HT2.out htq (by rw [List.length_take, HL.out]; omega) (by rw [List.length_take, HL.out]; omega) c0 (by omega)).mono ?_; rintro y w3 ⟨rfl, hp3, ht3, hc3⟩))
  first | go_end0 | refine bodyPost_ret (results_none rfl _ _ _) rfl ?_
  exact ⟨rfl, ⟨_, hp3⟩, ⟨_, HP2.out.chg hc3 (by rintro (h | h); exact hrt h; exact hrq h)⟩, ht3, ((HC1.out.mono (T := fun b => b = t ∨ b = q ∨ b = rb) (fun k _ h => .inl h)).next hc2 (fun k _ h => .inr h)).next hc3 (fun k _ h => by rcases h with h | h; exact .inl h; exact .inr (.inl h))⟩

set_option maxRecDepth 100000 in
set_option maxHeartbeats 1000000 in
theorem ov_full_room_lt (t q x b0 k : Nat) (bs : List Nat) (es : List XE) (sq xr : List Value) (nq pq : Value) (e : XE) (c : Int) (fi la r : Value) (ver : Int) (w : World) (i : Nat) (lb : Nat) (ls : List XE) (sl : List Value) (nl pl : Value) (rb : Nat) (rs : List XE) (sr : List Value) (nr pr : Value)
    (hq : PageAt w q es sq nq pq) (ht : TreeW w t c fi la r ver) (hx : RootAt w x b0 bs xr) (hk : k ≤ bs.length) (hbs : bs.length ≤ 250) (hl : es.length = 128) (c0 : 0 ≤ c) (c1 : c ≤ 2147483646) (hsl : sibL (b0 :: bs) k = some lb) (hlp : PageAt w lb ls sl nl pl) (hll : ls.length = 128) (hsr : sibR (b0 :: bs) k = some rb) (hrp : PageAt w rb rs sr nr pr) (hrq : ¬ rb = q) (hrl : rs.length < 128) (hi : i < 128) :
    Calls Tryz.prog 86 #[.pointer (some ⟨t, 0, none⟩), .pointer (some ⟨x, 0, none⟩), .pointer (some ⟨q, 0, none⟩), .int .i64 k, .int .i64 i, .agg #[.slice e.A e.m e.p, .int .i64 e.h], .int .i64 e.n] w
      (fun y w' => y = .returned (.tuple #[]) ∧ (∃ s, PageAt w' q ((es.take 127).take i ++ e :: (es.take 127).drop i) s nq pq) ∧ (∃ s, PageAt w' rb (es.drop 127 ++ rs) s nr pr) ∧ (∃ v, TreeW w' t (c + 1) fi la r v) ∧ Chg (fun b => b = t ∨ b = q ∨ b = rb) w w') := by
  have hqt := tag_ne hq.heap ht (by decide)
  have hxt := tag_ne hx.heap ht (by decide)
  have hxq := tag_ne hx.heap hq.heap (by decide)
  have htq : ¬ t = q := fun h => hqt h.symm
  have hlt := tag_ne hlp.heap ht (by decide)
  have hrt := tag_ne hrp.heap ht (by decide)
  have hxr := tag_ne hx.heap hrp.heap (by decide)
  obtain ⟨ht1, hc1, hb1⟩ := over_start e ht
  have ct4 : w.cell? ⟨t, 4, none⟩ = some (.int .i64 ver) := cell_of_heap ht 4
  have ft4 : w.frozen? ⟨t, 4, none⟩ = false := free_of_heap ht 4
  have lt := lt_of_heap ht
  have HT1 := Lib.hid ht1
  have HC1 := Lib.hid hc1
  have HQ1 := Lib.hid (hq.chg hc1 hqt)
  have HX1 := Lib.hid (hx.chg hc1 hxt)
  have HBK := Lib.hid hb1
  have HL1 := Lib.hid (hlp.chg hc1 hlt)
  have cl0 : ((w.setCell ⟨t, 4, none⟩ (.int .i64 (wrap64 (ver + 1)))).alloc (.cells #[.slice e.A e.m e.p, .int .i64 e.h] 136)).cell? ⟨lb, 0, none⟩ = some (.int .i64 ls.length) := by rw [HL1.out.cell]; rfl
  have hlc : ((ls.length : Int) < 128) = False := by simp; omega
  have HR1 := Lib.hid (hrp.chg hc1 hrt)
  have cr0 : ((w.setCell ⟨t, 4, none⟩ (.int .i64 (wrap64 (ver + 1)))).alloc (.cells #[.slice e.A e.m e.p, .int .i64 e.h] 136)).cell? ⟨rb, 0, none⟩ = some (.int .i64 rs.length) := by rw [HR1.out.cell]; rfl
  have hrc : ((rs.length : Int) < 128) = True := by simp; omega
  have cb0 := cell_of_heap hb1 0
  have cb1 := cell_of_heap hb1 1
  have HL := Lib.hid hl
  have LQ := Lib.hid hq.lt
  have LB := Lib.hid (lt_of_heap hb1)
  have hsib := fun w' (h : RootAt w' x b0 bs xr) => siblings_some x b0 bs xr k w' h hk (by omega)
  rw [hsl, show pgPtr (some lb) = .pointer (some ⟨lb, 0, none⟩) from rfl] at hsib
  rw [hsr, show pgPtr (some rb) = .pointer (some ⟨rb, 0, none⟩) from rfl] at hsib
  have HS := Lib.hid hsib
  clear hsib hsl ht hq ht1 hc1 hb1 hl hx hlp hrp hsr
  have hic : (i : Int) < 128 := by omega
  have hbq : ¬ w.heap.size = q := fun h => by have := LQ.out; omega
  have hbr : ¬ w.heap.size = rb := fun h => by have h1 := HBK.out; rw [h, HR1.out.heap] at h1; injection h1 with h1; injection h1 with _ h1; exact absurd h1 (by decide)
  go_enter Tryz.func86, Tryz.ntmps86
  go_wp2_with (first | (go_at_call 111; refine (HS.out _ HX1.out).mono ?_; rintro y w' ⟨rfl, rfl⟩) | (go_at_call 113; refine (mvR_any q rb 1 es rs _ _ _ _ _ _ _ HQ1.out HR1.out (fun h => hrq h.symm) (by rw [HL.out]; omega) (by omega) (by rw [HL.out]; omega)).mono ?_; rintro y w2 ⟨rfl, ⟨s1, hp1⟩, ⟨s2, hp2⟩, hc2⟩; rw [HL.out] at hp1 hp2; have HP1 := Lib.hid hp1; have HP2 := Lib.hid hp2; have HT2 := Lib.hid (HT1.out.chg hc2 (by rintro (h | h); exact htq h; exact hrt h.symm)); have hb2 := heap_chg HBK.out hc2 (by rintro (h | h); exact hbq h; exact hbr h); have db0 := cell_of_heap hb2 0; have db1 := cell_of_heap hb2 1) | (go_at_call 85; refine (insert_any t q i (es.take 127) _ _ _ e c fi la r _ _ HP1.out HT2.out htq (by rw [List.length_take, HL.out]; omega) (by rw [List.length_take, HL.out]; omega) c0 (by omega)).mono ?_; rintro y w3 ⟨rfl, hp3, ht3, hc3⟩))
  first | go_end0 | refine bodyPost_ret (results_none rfl _ _ _) rfl ?_
  exact ⟨rfl, ⟨_, hp3⟩, ⟨_, HP2.out.chg hc3 (by rintro (h | h); exact hrt h; exact hrq h)⟩, ht3, ((HC1.out.mono (T := fun b => b = t ∨ b = q ∨ b = rb) (fun k _ h => .inl h)).next hc2 (fun k _ h => .inr h)).next hc3 (fun k _ h => by rcases h with h | h; exact .inl h; exact .inr (.inl h))⟩

set_option maxRecDepth 100000 in
set_option maxHeartbeats 1000000 in
theorem ov_none_room_eq (t q x b0 k : Nat) (bs : List Nat) (es : List XE) (sq xr : List Value) (nq pq : Value) (e : XE) (c : Int) (fi la r : Value) (ver : Int) (w : World) (i : Nat) (rb : Nat) (rs : List XE) (sr : List Value) (nr pr : Value)
    (hq : PageAt w q es sq nq pq) (ht : TreeW w t c fi la r ver) (hx : RootAt w x b0 bs xr) (hk : k ≤ bs.length) (hbs : bs.length ≤ 250) (hl : es.length = 128) (c0 : 0 ≤ c) (c1 : c ≤ 2147483646) (hsl : sibL (b0 :: bs) k = none) (hsr : sibR (b0 :: bs) k = some rb) (hrp : PageAt w rb rs sr nr pr) (hrl : rs.length < 128) (hi : i = 128) :
    Calls Tryz.prog 86 #[.pointer (some ⟨t, 0, none⟩), .pointer (some ⟨x, 0, none⟩), .pointer (some ⟨q, 0, none⟩), .int .i64 k, .int .i64 i, .agg #[.slice e.A e.m e.p, .int .i64 e.h], .int .i64 e.n] w
      (fun y w' => y = .returned (.tuple #[]) ∧ (∃ s, PageAt w' rb (e :: rs) s nr pr) ∧ (∃ v, TreeW w' t (c + 1) fi la r v) ∧ Chg (fun b => b = t ∨ b = rb) w w') := by
  have hqt := tag_ne hq.heap ht (by decide)
  have hxt := tag_ne hx.heap ht (by decide)
  have hxq := tag_ne hx.heap hq.heap (by decide)
  have htq : ¬ t = q := fun h => hqt h.symm
  have hrt := tag_ne hrp.heap ht (by decide)
  have hxr := tag_ne hx.heap hrp.heap (by decide)
  obtain ⟨ht1, hc1, hb1⟩ := over_start e ht
  have ct4 : w.cell? ⟨t, 4, none⟩ = some (.int .i64 ver) := cell_of_heap ht 4
  have ft4 : w.frozen? ⟨t, 4, none⟩ = false := free_of_heap ht 4
  have lt := lt_of_heap ht
  have HT1 := Lib.hid ht1
  have HC1 := Lib.hid hc1
  have HQ1 := Lib.hid (hq.chg hc1 hqt)
  have HX1 := Lib.hid (hx.chg hc1 hxt)
  have HBK := Lib.hid hb1
  have HR1 := Lib.hid (hrp.chg hc1 hrt)
  have cr0 : ((w.setCell ⟨t, 4, none⟩ (.int .i64 (wrap64 (ver + 1)))).alloc (.cells #[.slice e.A e.m e.p, .int .i64 e.h] 136)).cell? ⟨rb, 0, none⟩ = some (.int .i64 rs.length) := by rw [HR1.out.cell]; rfl
  have hrc : ((rs.length : Int) < 128) = True := by simp; omega
  have cb0 := cell_of_heap hb1 0
  have cb1 := cell_of_heap hb1 1
  have HL := Lib.hid hl
  have LQ := Lib.hid hq.lt
  have LB := Lib.hid (lt_of_heap hb1)
  have hsib := fun w' (h : RootAt w' x b0 bs xr) => siblings_some x b0 bs xr k w' h hk (by omega)
  rw [hsl, show pgPtr none = .pointer none from rfl] at hsib
  rw [hsr, show pgPtr (some rb) = .pointer (some ⟨rb, 0, none⟩) from rfl] at hsib
  have HS := Lib.hid hsib
  clear hsib hsl ht hq ht1 hc1 hb1 hl hx hrp hsr
  have hic : ((i : Int) < 128) = False := by simp; omega
  have hbq : ¬ w.heap.size = q := fun h => by have := LQ.out; omega
  have hbr : ¬ w.heap.size = rb := fun h => by have h1 := HBK.out; rw [h, HR1.out.heap] at h1; injection h1 with h1; injection h1 with _ h1; exact absurd h1 (by decide)
  go_enter Tryz.func86, Tryz.ntmps86
  go_wp2_with (first | (go_at_call 111; refine (HS.out _ HX1.out).mono ?_; rintro y w' ⟨rfl, rfl⟩) | (go_at_call 85; refine (insert_any t rb 0 rs _ _ _ e c fi la r _ _ HR1.out HT1.out (fun h => hrt h.symm) (by omega) (by omega) c0 (by omega)).mono ?_; rintro y w3 ⟨rfl, hp3, ht3, hc3⟩))
  first | go_end0 | refine bodyPost_ret (results_none rfl _ _ _) rfl ?_
  exact ⟨rfl, ⟨_, hp3⟩, ht3, (HC1.out.mono (T := fun b => b = t ∨ b = rb) (fun k _ h => .inl h)).next hc3 (fun k _ h => h)⟩

set_option maxRecDepth 100000 in
set_option maxHeartbeats 1000000 in
theorem ov_full_room_eq (t q x b0 k : Nat) (bs : List Nat) (es : List XE) (sq xr : List Value) (nq pq : Value) (e : XE) (c : Int) (fi la r : Value) (ver : Int) (w : World) (i : Nat) (lb : Nat) (ls : List XE) (sl : List Value) (nl pl : Value) (rb : Nat) (rs : List XE) (sr : List Value) (nr pr : Value)
    (hq : PageAt w q es sq nq pq) (ht : TreeW w t c fi la r ver) (hx : RootAt w x b0 bs xr) (hk : k ≤ bs.length) (hbs : bs.length ≤ 250) (hl : es.length = 128) (c0 : 0 ≤ c) (c1 : c ≤ 2147483646) (hsl : sibL (b0 :: bs) k = some lb) (hlp : PageAt w lb ls sl nl pl) (hll : ls.length = 128) (hsr : sibR (b0 :: bs) k = some rb) (hrp : PageAt w rb rs sr nr pr) (hrl : rs.length < 128) (hi : i = 128) :
    Calls Tryz.prog 86 #[.pointer (some ⟨t, 0, none⟩), .pointer (some ⟨x, 0, none⟩), .pointer (some ⟨q, 0, none⟩), .int .i64 k, .int .i64 i, .agg #[.slice e.A e.m e.p, .int .i64 e.h], .int .i64 e.n] w
      (fun y w' => y = .returned (.tuple #[]) ∧ (∃ s, PageAt w' rb (e :: rs) s nr pr) ∧ (∃ v, TreeW w' t (c + 1) fi la r v) ∧ Chg (fun b => b = t ∨ b = rb) w w') := by
  have hqt := tag_ne hq.heap ht (by decide)
  have hxt := tag_ne hx.heap ht (by decide)
  have hxq := tag_ne hx.heap hq.heap (by decide)
  have htq : ¬ t = q := fun h => hqt h.symm
  have hlt := tag_ne hlp.heap ht (by decide)
  have hrt := tag_ne hrp.heap ht (by decide)
  have hxr := tag_ne hx.heap hrp.heap (by decide)
  obtain ⟨ht1, hc1, hb1⟩ := over_start e ht
  have ct4 : w.cell? ⟨t, 4, none⟩ = some (.int .i64 ver) := cell_of_heap ht 4
  have ft4 : w.frozen? ⟨t, 4, none⟩ = false := free_of_heap ht 4
  have lt := lt_of_heap ht
  have HT1 := Lib.hid ht1
  have HC1 := Lib.hid hc1
  have HQ1 := Lib.hid (hq.chg hc1 hqt)
  have HX1 := Lib.hid (hx.chg hc1 hxt)
  have HBK := Lib.hid hb1
  have HL1 := Lib.hid (hlp.chg hc1 hlt)
  have cl0 : ((w.setCell ⟨t, 4, none⟩ (.int .i64 (wrap64 (ver + 1)))).alloc (.cells #[.slice e.A e.m e.p, .int .i64 e.h] 136)).cell? ⟨lb, 0, none⟩ = some (.int .i64 ls.length) := by rw [HL1.out.cell]; rfl
  have hlc : ((ls.length : Int) < 128) = False := by simp; omega
  have HR1 := Lib.hid (hrp.chg hc1 hrt)
  have cr0 : ((w.setCell ⟨t, 4, none⟩ (.int .i64 (wrap64 (ver + 1)))).alloc (.cells #[.slice e.A e.m e.p, .int .i64 e.h] 136)).cell? ⟨rb, 0, none⟩ = some (.int .i64 rs.length) := by rw [HR1.out.cell]; rfl
  have hrc : ((rs.length : Int) < 128) = True := by simp; omega
  have cb0 := cell_of_heap hb1 0
  have cb1 := cell_of_heap hb1 1
  have HL := Lib.hid hl
  have LQ := Lib.hid hq.lt
  have LB := Lib.hid (lt_of_heap hb1)
  have hsib := fun w' (h : RootAt w' x b0 bs xr) => siblings_some x b0 bs xr k w' h hk (by omega)
  rw [hsl, show pgPtr (some lb) = .pointer (some ⟨lb, 0, none⟩) from rfl] at hsib
  rw [hsr, show pgPtr (some rb) = .pointer (some ⟨rb, 0, none⟩) from rfl] at hsib
  have HS := Lib.hid hsib
  clear hsib hsl ht hq ht1 hc1 hb1 hl hx hlp hrp hsr
  have hic : ((i : Int) < 128) = False := by simp; omega
  have hbq : ¬ w.heap.size = q := fun h => by have := LQ.out; omega
  have hbr : ¬ w.heap.size = rb := fun h => by have h1 := HBK.out; rw [h, HR1.out.heap] at h1; injection h1 with h1; injection h1 with _ h1; exact absurd h1 (by decide)
  go_enter Tryz.func86, Tryz.ntmps86
  go_wp2_with (first | (go_at_call 111; refine (HS.out _ HX1.out).mono ?_; rintro y w' ⟨rfl, rfl⟩) | (go_at_call 85; refine (insert_any t rb 0 rs _ _ _ e c fi la r _ _ HR1.out HT1.out (fun h => hrt h.symm) (by omega) (by omega) c0 (by omega)).mono ?_; rintro y w3 ⟨rfl, hp3, ht3, hc3⟩))
  first | go_end0 | refine bodyPost_ret (results_none rfl _ _ _) rfl ?_
  exact ⟨rfl, ⟨_, hp3⟩, ht3, (HC1.out.mono (T := fun b => b = t ∨ b = rb) (fun k _ h => .inl h)).next hc3 (fun k _ h => h)⟩

set_option maxRecDepth 100000 in
set_option maxHeartbeats 1000000 in
theorem ov_none_full_any (t q x b0 k : Nat) (bs : List Nat) (es : List XE) (sq xr : List Value) (pq : Value) (e : XE) (c : Int) (fi la r : Value) (ver : Int) (w : World) (i : Nat) (rb : Nat) (rs : List XE) (sr : List Value) (nr : Value)
    (hq : PageAt w q es sq (.pointer (some ⟨rb, 0, none⟩)) pq) (ht : TreeW w t c fi la r ver) (hx : RootAt w x b0 bs xr) (hk : k ≤ bs.length) (hbs : bs.length ≤ 250) (hl : es.length = 128) (c0 : 0 ≤ c) (c1 : c ≤ 2147483646) (hsl : sibL (b0 :: bs) k = none) (hsr : sibR (b0 :: bs) k = some rb) (hrp : PageAt w rb rs sr nr (.pointer (some ⟨q, 0, none⟩))) (hrq : ¬ rb = q) (hrl : rs.length = 128) (hi : i ≤ 128) :
    Calls Tryz.prog 86 #[.pointer (some ⟨t, 0, none⟩), .pointer (some ⟨x, 0, none⟩), .pointer (some ⟨q, 0, none⟩), .int .i64 k, .int .i64 i, .agg #[.slice e.A e.m e.p, .int .i64 e.h], .int .i64 e.n] w
      (fun y w' => y = .returned (.tuple #[]) ∧ ∃ nb s, Halves w w' t q es i e (.pointer (some ⟨rb, 0, none⟩)) pq c fi nb la r ∧ RootAt w' x b0 (bs.take k ++ nb :: bs.drop k) s ∧ PageAt w' rb rs sr nr (.pointer (some ⟨nb, 0, none⟩)) ∧ Chg (fun b => (b = t ∨ b = q ∨ b = rb) ∨ b = x) w w') := by
  have hqt := tag_ne hq.heap ht (by decide)
  have hxt := tag_ne hx.heap ht (by decide)
  have hxq := tag_ne hx.heap hq.heap (by decide)
  have htq : ¬ t = q := fun h => hqt h.symm
  have hrt := tag_ne hrp.heap ht (by decide)
  have hxr := tag_ne hx.heap hrp.heap (by decide)
  obtain ⟨ht1, hc1, hb1⟩ := over_start e ht
  have ct4 : w.cell? ⟨t, 4, none⟩ = some (.int .i64 ver) := cell_of_heap ht 4
  have ft4 : w.frozen? ⟨t, 4, none⟩ = false := free_of_heap ht 4
  have lt := lt_of_heap ht
  have HT1 := Lib.hid ht1
  have HC1 := Lib.hid hc1
  have HQ1 := Lib.hid (hq.chg hc1 hqt)
  have HX1 := Lib.hid (hx.chg hc1 hxt)
  have HBK := Lib.hid hb1
  have HR1 := Lib.hid (hrp.chg hc1 hrt)
  have cr0 : ((w.setCell ⟨t, 4, none⟩ (.int .i64 (wrap64 (ver + 1)))).alloc (.cells #[.slice e.A e.m e.p, .int .i64 e.h] 136)).cell? ⟨rb, 0, none⟩ = some (.int .i64 rs.length) := by rw [HR1.out.cell]; rfl
  have hrc : ((rs.length : Int) < 128) = False := by simp; omega
  have cb0 := cell_of_heap hb1 0
  have cb1 := cell_of_heap hb1 1
  have HL := Lib.hid hl
  have LQ := Lib.hid hq.lt
  have LB := Lib.hid (lt_of_heap hb1)
  have hsib := fun w' (h : RootAt w' x b0 bs xr) => siblings_some x b0 bs xr k w' h hk (by omega)
  rw [hsl, show pgPtr none = .pointer none from rfl] at hsib
  rw [hsr, show pgPtr (some rb) = .pointer (some ⟨rb, 0, none⟩) from rfl] at hsib
  have HS := Lib.hid hsib
  clear hsib hsl ht hq ht1 hc1 hb1 hl hx hrp hsr
  have hbq : ¬ w.heap.size = q := fun h => by have := LQ.out; omega
  go_enter Tryz.func86, Tryz.ntmps86
  go_wp2_with (first | (go_at_call 111; refine (HS.out _ HX1.out).mono ?_; rintro y w' ⟨rfl, rfl⟩) | (go_at_call 114; refine (split_rootS t q x b0 bs _ k rb rs _ _ i es _ _ e c fi la r _ _ HQ1.out HT1.out htq hi HL.out c0 c1 HX1.out hk hbs hxt hxq HR1.out hrt hrq hxr).mono ?_; rintro y w2 ⟨rfl, nb, xs, hh, hrx, hnp, hc2⟩))
  first | go_end0 | refine bodyPost_ret (results_none rfl _ _ _) rfl ?_
  obtain ⟨h1, h2, h3⟩ := hh
  have hs := HC1.out.size
  exact ⟨rfl, nb, xs, ⟨by omega, h2, h3⟩, hrx, hnp, (HC1.out.mono (T := fun b => (b = t ∨ b = q ∨ b = rb) ∨ b = x) (fun k _ h => .inl (.inl h))).next hc2 (fun k _ h => h)⟩

set_option maxRecDepth 100000 in
set_option maxHeartbeats 1000000 in
theorem ov_full_full_any (t q x b0 k : Nat) (bs : List Nat) (es : List XE) (sq xr : List Value) (pq : Value) (e : XE) (c : Int) (fi la r : Value) (ver : Int) (w : World) (i : Nat) (lb : Nat) (ls : List XE) (sl : List Value) (nl pl : Value) (rb : Nat) (rs : List XE) (sr : List Value) (nr : Value)
    (hq : PageAt w q es sq (.pointer (some ⟨rb, 0, none⟩)) pq) (ht : TreeW w t c fi la r ver) (hx : RootAt w x b0 bs xr) (hk : k ≤ bs.length) (hbs : bs.length ≤ 250) (hl : es.length = 128) (c0 : 0 ≤ c) (c1 : c ≤ 2147483646) (hsl : sibL (b0 :: bs) k = some lb) (hlp : PageAt w lb ls sl nl pl) (hll : ls.length = 128) (hsr : sibR (b0 :: bs) k = some rb) (hrp : PageAt w rb rs sr nr (.pointer (some ⟨q, 0, none⟩))) (hrq : ¬ rb = q) (hrl : rs.length = 128) (hi : i ≤ 128) :
    Calls Tryz.prog 86 #[.pointer (some ⟨t, 0, none⟩), .pointer (some ⟨x, 0, none⟩), .pointer (some ⟨q, 0, none⟩), .int .i64 k, .int .i64 i, .agg #[.slice e.A e.m e.p, .int .i64 e.h], .int .i64 e.n] w
      (fun y w' => y = .returned (.tuple #[]) ∧ ∃ nb s, Halves w w' t q es i e (.pointer (some ⟨rb, 0, none⟩)) pq c fi nb la r ∧ RootAt w' x b0 (bs.take k ++ nb :: bs.drop k) s ∧ PageAt w' rb rs sr nr (.pointer (some ⟨nb, 0, none⟩)) ∧ Chg (fun b => (b = t ∨ b = q ∨ b = rb) ∨ b = x) w w') := by
  have hqt := tag_ne hq.heap ht (by decide)
  have hxt := tag_ne hx.heap ht (by decide)
  have hxq := tag_ne hx.heap hq.heap (by decide)
  have htq : ¬ t = q := fun h => hqt h.symm
  have hlt := tag_ne hlp.heap ht (by decide)
  have hrt := tag_ne hrp.heap ht (by decide)
  have hxr := tag_ne hx.heap hrp.heap (by decide)
  obtain ⟨ht1, hc1, hb1⟩ := over_start e ht
  have ct4 : w.cell? ⟨t, 4, none⟩ = some (.int .i64 ver) := cell_of_heap ht 4
  have ft4 : w.frozen? ⟨t, 4, none⟩ = false := free_of_heap ht 4
  have lt := lt_of_heap ht
  have HT1 := Lib.hid ht1
  have HC1 := Lib.hid hc1
  have HQ1 := Lib.hid (hq.chg hc1 hqt)
  have HX1 := Lib.hid (hx.chg hc1 hxt)
  have HBK := Lib.hid hb1
  have HL1 := Lib.hid (hlp.chg hc1 hlt)
  have cl0 : ((w.setCell ⟨t, 4, none⟩ (.int .i64 (wrap64 (ver + 1)))).alloc (.cells #[.slice e.A e.m e.p, .int .i64 e.h] 136)).cell? ⟨lb, 0, none⟩ = some (.int .i64 ls.length) := by rw [HL1.out.cell]; rfl
  have hlc : ((ls.length : Int) < 128) = False := by simp; omega
  have HR1 := Lib.hid (hrp.chg hc1 hrt)
  have cr0 : ((w.setCell ⟨t, 4, none⟩ (.int .i64 (wrap64 (ver + 1)))).alloc (.cells #[.slice e.A e.m e.p, .int .i64 e.h] 136)).cell? ⟨rb, 0, none⟩ = some (.int .i64 rs.length) := by rw [HR1.out.cell]; rfl
  have hrc : ((rs.length : Int) < 128) = False := by simp; omega
  have cb0 := cell_of_heap hb1 0
  have cb1 := cell_of_heap hb1 1
  have HL := Lib.hid hl
  have LQ := Lib.hid hq.lt
  have LB := Lib.hid (lt_of_heap hb1)
  have hsib := fun w' (h : RootAt w' x b0 bs xr) => siblings_some x b0 bs xr k w' h hk (by omega)
  rw [hsl, show pgPtr (some lb) = .pointer (some ⟨lb, 0, none⟩) from rfl] at hsib
  rw [hsr, show pgPtr (some rb) = .pointer (some ⟨rb, 0, none⟩) from rfl] at hsib
  have HS := Lib.hid hsib
  clear hsib hsl ht hq ht1 hc1 hb1 hl hx hlp hrp hsr
  have hbq : ¬ w.heap.size = q := fun h => by have := LQ.out; omega
  go_enter Tryz.func86, Tryz.ntmps86
  go_wp2_with (first | (go_at_call 111; refine (HS.out _ HX1.out).mono ?_; rintro y w' ⟨rfl, rfl⟩) | (go_at_call 114; refine (split_rootS t q x b0 bs _ k rb rs _ _ i es _ _ e c fi la r _ _ HQ1.out HT1.out htq hi HL.out c0 c1 HX1.out hk hbs hxt hxq HR1.out hrt hrq hxr).mono ?_; rintro y w2 ⟨rfl, nb, xs, hh, hrx, hnp, hc2⟩))
  first | go_end0 | refine bodyPost_ret (results_none rfl _ _ _) rfl ?_
  obtain ⟨h1, h2, h3⟩ := hh
  have hs := HC1.out.size
  exact ⟨rfl, nb, xs, ⟨by omega, h2, h3⟩, hrx, hnp, (HC1.out.mono (T := fun b => (b = t ∨ b = q ∨ b = rb) ∨ b = x) (fun k _ h => .inl (.inl h))).next hc2 (fun k _ h => h)⟩

set_option maxRecDepth 100000 in
set_option maxHeartbeats 1000000 in
theorem ov_full_none_any (t q x b0 k : Nat) (bs : List Nat) (es : List XE) (sq xr : List Value) (pq : Value) (e : XE) (c : Int) (fi la r : Value) (ver : Int) (w : World) (i : Nat) (lb : Nat) (ls : List XE) (sl : List Value) (nl pl : Value)
    (hq : PageAt w q es sq (.pointer none) pq) (ht : TreeW w t c fi la r ver) (hx : RootAt w x b0 bs xr) (hk : k ≤ bs.length) (hbs : bs.length ≤ 250) (hl : es.length = 128) (c0 : 0 ≤ c) (c1 : c ≤ 2147483646) (hsl : sibL (b0 :: bs) k = some lb) (hlp : PageAt w lb ls sl nl pl) (hll : ls.length = 128) (hsr : sibR (b0 :: bs) k = none) (hi : i ≤ 128) :
    Calls Tryz.prog 86 #[.pointer (some ⟨t, 0, none⟩), .pointer (some ⟨x, 0, none⟩), .pointer (some ⟨q, 0, none⟩), .int .i64 k, .int .i64 i, .agg #[.slice e.A e.m e.p, .int .i64 e.h], .int .i64 e.n] w
      (fun y w' => y = .returned (.tuple #[]) ∧ ∃ nb s, Halves w w' t q es i e (.pointer none) pq c fi nb (.pointer (some ⟨nb, 0, none⟩)) r ∧ RootAt w' x b0 (bs.take k ++ nb :: bs.drop k) s ∧ Chg (fun b => (b = t ∨ b = q) ∨ b = x) w w') := by
  have hqt := tag_ne hq.heap ht (by decide)
  have hxt := tag_ne hx.heap ht (by decide)
  have hxq := tag_ne hx.heap hq.heap (by decide)
  have htq : ¬ t = q := fun h => hqt h.symm
  have hlt := tag_ne hlp.heap ht (by decide)
  obtain ⟨ht1, hc1, hb1⟩ := over_start e ht
  have ct4 : w.cell? ⟨t, 4, none⟩ = some (.int .i64 ver) := cell_of_heap ht 4
  have ft4 : w.frozen? ⟨t, 4, none⟩ = false := free_of_heap ht 4
  have lt := lt_of_heap ht
  have HT1 := Lib.hid ht1
  have HC1 := Lib.hid hc1
  have HQ1 := Lib.hid (hq.chg hc1 hqt)
  have HX1 := Lib.hid (hx.chg hc1 hxt)
  have HBK := Lib.hid hb1
  have HL1 := Lib.hid (hlp.chg hc1 hlt)
  have cl0 : ((w.setCell ⟨t, 4, none⟩ (.int .i64 (wrap64 (ver + 1)))).alloc (.cells #[.slice e.A e.m e.p, .int .i64 e.h] 136)).cell? ⟨lb, 0, none⟩ = some (.int .i64 ls.length) := by rw [HL1.out.cell]; rfl
  have hlc : ((ls.length : Int) < 128) = False := by simp; omega
  have cb0 := cell_of_heap hb1 0
  have cb1 := cell_of_heap hb1 1
  have HL := Lib.hid hl
  have LQ := Lib.hid hq.lt
  have LB := Lib.hid (lt_of_heap hb1)
  have hsib := fun w' (h : RootAt w' x b0 bs xr) => siblings_some x b0 bs xr k w' h hk (by omega)
  rw [hsl, show pgPtr (some lb) = .pointer (some ⟨lb, 0, none⟩) from rfl] at hsib
  rw [hsr, show pgPtr none = .pointer none from rfl] at hsib
  have HS := Lib.hid hsib
  clear hsib hsl ht hq ht1 hc1 hb1 hl hx hlp hsr
  have hbq : ¬ w.heap.size = q := fun h => by have := LQ.out; omega
  go_enter Tryz.func86, Tryz.ntmps86
  go_wp2_with (first | (go_at_call 111; refine (HS.out _ HX1.out).mono ?_; rintro y w' ⟨rfl, rfl⟩) | (go_at_call 114; refine (split_rootN t q x b0 bs _ k i es _ _ e c fi la r _ _ HQ1.out HT1.out htq hi HL.out c0 c1 HX1.out hk hbs hxt hxq).mono ?_; rintro y w2 ⟨rfl, nb, xs, hh, hrx, hc2⟩))
  first | go_end0 | refine bodyPost_ret (results_none rfl _ _ _) rfl ?_
  obtain ⟨h1, h2, h3⟩ := hh
  have hs := HC1.out.size
  exact ⟨rfl, nb, xs, ⟨by omega, h2, h3⟩, hrx, (HC1.out.mono (T := fun b => (b = t ∨ b = q) ∨ b = x) (fun k _ h => .inl (.inl h))).next hc2 (fun k _ h => h)⟩

end Go.Proofs.YtffgkocokkhahaaGreatDoor

/- (*xtree).overflow under a root: the tree that comes of it. -/
namespace Go.Proofs.YtffgkocokkhahaaGreatDoor
open Go.RowKit

theorem hdp_blocks {P Q : List Pg} (h : Blocks P = Blocks Q) (nx : Value) : hdp P nx = hdp Q nx := by
  cases P with
  | nil => cases Q with
    | nil => rfl
    | cons q Q => simp [Blocks] at h
  | cons p P => cases Q with
    | nil => simp [Blocks] at h
    | cons q Q =>
      have : p.1 = q.1 := by simp [Blocks] at h; exact h.1
      simp [hdp, this]
theorem lastp_blocks : ∀ {P Q : List Pg} (_ : Blocks P = Blocks Q) (pv : Value), lastp pv P = lastp pv Q
  | [], [], _, _ => rfl
  | [], _ :: _, h, _ => by simp [Blocks] at h
  | _ :: _, [], h, _ => by simp [Blocks] at h
  | p :: P, q :: Q, h, pv => by
    have h1 : p.1 = q.1 := by simp [Blocks] at h; exact h.1
    have h2 : Blocks P = Blocks Q := by simp [Blocks] at h ⊢; exact h.2
    show lastp (ptr p.1) P = lastp (ptr q.1) Q
    rw [h1]
    exact lastp_blocks h2 _

theorem blocks_append (A B : List Pg) : Blocks (A ++ B) = Blocks A ++ Blocks B := by simp [Blocks]
theorem blocks_cons (p : Pg) (B : List Pg) : Blocks (p :: B) = p.1 :: Blocks B := rfl
theorem mem_blocks {p : Pg} {A : List Pg} (h : p ∈ A) : p.1 ∈ Blocks A := List.mem_map_of_mem h

theorem ents_le : ∀ {P : List Pg}, (∀ p ∈ P, 64 ≤ p.2.length ∧ p.2.length ≤ 128) → (ents P).length ≤ P.length * 128
  | [], _ => by simp [ents]
  | p :: P, h => by
    rw [ents_cons, List.length_append, List.length_cons, Nat.succ_mul]
    have h1 := (h p (by simp)).2
    have h2 := ents_le (P := P) (fun q hq => h q (by simp [hq]))
    omega

theorem Rooted.ne {w : World} {t x : Nat} {P : List Pg} {c : Int} (h : Rooted w t x P c) : ¬ x = t ∧ ∀ p ∈ P, ¬ p.1 = x ∧ ¬ p.1 = t := by
  obtain ⟨_, ht⟩ := h.tree
  obtain ⟨_, _, _, _, hx⟩ := h.root
  refine ⟨tag_ne hx.heap ht (by decide), fun p hp => ?_⟩
  obtain ⟨_, _, _, hq⟩ := chain_page h.chain p hp
  exact ⟨tag_ne hq.heap hx.heap (by decide), tag_ne hq.heap ht (by decide)⟩

/-- The same blocks, other entries. -/
theorem Rooted.re {w w' : World} {t x : Nat} {P P' : List Pg} {c c' : Int} {S : Nat → Prop} (h : Rooted w t x P c) (hB : Blocks P' = Blocks P)
    (ht : ∃ ver, TreeW w' t c' (hdp P (.pointer none)) (lastp (.pointer none) P) (.iface 169 (ptr x)) ver) (hch : Chain w' (.pointer none) P' (.pointer none))
    (hs : ∀ p ∈ P', 64 ≤ p.2.length ∧ p.2.length ≤ 128) (hc : Chg S w w') (hn : ¬ S x) : Rooted w' t x P' c' := by
  obtain ⟨b0, bs, xr, h1, h2⟩ := h.root
  refine ⟨by rw [hdp_blocks hB, lastp_blocks hB]; exact ht, ⟨b0, bs, xr, by rw [hB]; exact h1, h2.chg hc hn⟩, hch, hs, by rw [hB]; exact h.nodup, ?_⟩
  have := congrArg List.length hB
  simp [Blocks] at this
  rw [this]
  exact h.two

theorem grow_many {t x : Nat} {P : List Pg} {L : List XE} {S : Nat → Prop} {w w' : World} (h : Rooted w' t x P (ents P).length) (hL : ents P = L) (hc : Chg S w w') (hS : ∀ k, ((k = t ∨ k = x) ∨ k ∈ Blocks P) → S k ∨ w.heap.size ≤ k) :
    GrowP t L S w (.returned (.tuple #[])) w' := by
  subst hL
  exact ⟨rfl, _, .many h, hc, hS⟩

/-- Two neighbours have changed. -/
theorem chain_two {w w' : World} {A B : List Pg} {a b : Nat} {ea eb ea' eb' : List XE} {S : Nat → Prop} (h : Chain w (.pointer none) (A ++ (a, ea) :: (b, eb) :: B) (.pointer none))
    (hc : Chg S w w') (hA : ∀ p ∈ A, ¬ S p.1) (hB : ∀ p ∈ B, ¬ S p.1) (h1 : ∃ r, PageAt w' a ea' r (ptr b) (lastp (.pointer none) A)) (h2 : ∃ r, PageAt w' b eb' r (hdp B (.pointer none)) (ptr a)) :
    Chain w' (.pointer none) (A ++ (a, ea') :: (b, eb') :: B) (.pointer none) := by
  rw [chain_append] at h ⊢
  obtain ⟨g1, _, _, g4⟩ := h
  exact ⟨chain_chg g1 hc hA, h1, h2, chain_chg g4 hc hB⟩

theorem chain_one {w w' : World} {A B : List Pg} {a : Nat} {ea ea' : List XE} {S : Nat → Prop} (h : Chain w (.pointer none) (A ++ (a, ea) :: B) (.pointer none))
    (hc : Chg S w w') (hA : ∀ p ∈ A, ¬ S p.1) (hB : ∀ p ∈ B, ¬ S p.1) (h1 : ∃ r, PageAt w' a ea' r (hdp B (.pointer none)) (lastp (.pointer none) A)) :
    Chain w' (.pointer none) (A ++ (a, ea') :: B) (.pointer none) := by
  rw [chain_append] at h ⊢
  obtain ⟨g1, _, g4⟩ := h
  exact ⟨chain_chg g1 hc hA, h1, chain_chg g4 hc hB⟩

/-- Neither a page of A nor one of B. -/
theorem nodup_mid {A B : List Pg} {q : Nat} {es : List XE} (h : (Blocks (A ++ (q, es) :: B)).Nodup) : (∀ p ∈ A, ¬ p.1 = q) ∧ (∀ p ∈ B, ¬ p.1 = q) ∧ ∀ a ∈ A, ∀ b ∈ B, ¬ a.1 = b.1 := by
  rw [blocks_append, blocks_cons] at h
  obtain ⟨h1, h2, h3⟩ := List.nodup_append.1 h
  obtain ⟨h4, h5⟩ := List.nodup_cons.1 h2
  exact ⟨fun p hp he => h3 _ (mem_blocks hp) _ (by simp) he, fun p hp he => h4 (by have := mem_blocks hp; rw [he] at this; exact this), fun a ha b hb he => h3 _ (mem_blocks ha) _ (by simp; exact .inr (mem_blocks hb)) he⟩

theorem sibL_nil (B : List Nat) (q : Nat) : sibL (q :: B) 0 = none := rfl
theorem sibL_last (A B : List Nat) (l q : Nat) : sibL (A ++ [l] ++ q :: B) (A.length + 1) = some l := by
  show (A ++ [l] ++ q :: B)[A.length]? = some l
  simp
theorem sibR_at (A B : List Nat) (q : Nat) : sibR (A ++ q :: B) A.length = B[0]? := by
  unfold sibR
  rw [List.getElem?_append_right (by omega), show A.length + 1 - A.length = 1 by omega]
  rfl

theorem take_drop_one {es : List XE} {i : Nat} {e : XE} (hi : 1 ≤ i) (hl : i ≤ es.length) : es.take 1 ++ ((es.drop 1).take (i - 1) ++ e :: (es.drop 1).drop (i - 1)) = es.take i ++ e :: es.drop i := by
  obtain ⟨j, rfl⟩ : ∃ j, i = 1 + j := ⟨i - 1, by omega⟩
  rw [show 1 + j - 1 = j by omega, List.drop_drop, ← List.append_assoc, ← List.take_add]
theorem take_last {es : List XE} {i : Nat} {e : XE} (hi : i < 128) (hl : es.length = 128) : (es.take 127).take i ++ e :: (es.take 127).drop i ++ es.drop 127 = es.take i ++ e :: es.drop i := by
  rw [List.take_take, Nat.min_eq_left (by omega), List.append_assoc, List.cons_append]
  congr 2
  have : es.drop i = (es.take 127).drop i ++ es.drop 127 := by
    conv => lhs; rw [← List.take_append_drop 127 es]
    rw [List.drop_append, List.length_take, show i - min 127 es.length = 0 by omega]
    rfl
  exact this.symm

/-- Where the page ahead has no room. -/
theorem over_rest (t x q i : Nat) (A B : List Pg) (es : List XE) (e : XE) (w : World) (h : Rooted w t x (A ++ (q, es) :: B) (ents (A ++ (q, es) :: B)).length) (hl : es.length = 128) (hi : i ≤ 128) (b0 : Nat) (bs : List Nat)
    (hbl2 : b0 :: bs = Blocks A ++ q :: Blocks B) (sq : List Value) (hq : PageAt w q es sq (hdp B (.pointer none)) (lastp (.pointer none) A))
    {arg : Array Value}
    (Hlt : ∀ rb rs sr nr pr, sibR (b0 :: bs) A.length = some rb → PageAt w rb rs sr nr pr → ¬ rb = q → rs.length < 128 → i < 128 → Calls Tryz.prog 86 arg w (fun y w' => y = .returned (.tuple #[]) ∧
      (∃ s, PageAt w' q ((es.take 127).take i ++ e :: (es.take 127).drop i) s (hdp B (.pointer none)) (lastp (.pointer none) A)) ∧ (∃ s, PageAt w' rb (es.drop 127 ++ rs) s nr pr) ∧
      (∃ v, TreeW w' t ((ents (A ++ (q, es) :: B)).length + 1) (hdp (A ++ (q, es) :: B) (.pointer none)) (lastp (.pointer none) (A ++ (q, es) :: B)) (.iface 169 (ptr x)) v) ∧ Chg (fun b => b = t ∨ b = q ∨ b = rb) w w'))
    (Heq : ∀ rb rs sr nr pr, sibR (b0 :: bs) A.length = some rb → PageAt w rb rs sr nr pr → rs.length < 128 → i = 128 → Calls Tryz.prog 86 arg w (fun y w' => y = .returned (.tuple #[]) ∧
      (∃ s, PageAt w' rb (e :: rs) s nr pr) ∧
      (∃ v, TreeW w' t ((ents (A ++ (q, es) :: B)).length + 1) (hdp (A ++ (q, es) :: B) (.pointer none)) (lastp (.pointer none) (A ++ (q, es) :: B)) (.iface 169 (ptr x)) v) ∧ Chg (fun b => b = t ∨ b = rb) w w'))
    (Hfull : ∀ rb rs sr nr, sibR (b0 :: bs) A.length = some rb → PageAt w q es sq (.pointer (some ⟨rb, 0, none⟩)) (lastp (.pointer none) A) → PageAt w rb rs sr nr (.pointer (some ⟨q, 0, none⟩)) → ¬ rb = q → rs.length = 128 → Calls Tryz.prog 86 arg w (fun y w' => y = .returned (.tuple #[]) ∧
      ∃ nb s, Halves w w' t q es i e (.pointer (some ⟨rb, 0, none⟩)) (lastp (.pointer none) A) (ents (A ++ (q, es) :: B)).length (hdp (A ++ (q, es) :: B) (.pointer none)) nb (lastp (.pointer none) (A ++ (q, es) :: B)) (.iface 169 (ptr x)) ∧
      RootAt w' x b0 (bs.take A.length ++ nb :: bs.drop A.length) s ∧ PageAt w' rb rs sr nr (.pointer (some ⟨nb, 0, none⟩)) ∧ Chg (fun b => (b = t ∨ b = q ∨ b = rb) ∨ b = x) w w'))
    (Hnone : B = [] → sibR (b0 :: bs) A.length = none → PageAt w q es sq (.pointer none) (lastp (.pointer none) A) → Calls Tryz.prog 86 arg w (fun y w' => y = .returned (.tuple #[]) ∧
      ∃ nb s, Halves w w' t q es i e (.pointer none) (lastp (.pointer none) A) (ents (A ++ (q, es) :: B)).length (hdp (A ++ (q, es) :: B) (.pointer none)) nb (.pointer (some ⟨nb, 0, none⟩)) (.iface 169 (ptr x)) ∧
      RootAt w' x b0 (bs.take A.length ++ nb :: bs.drop A.length) s ∧ Chg (fun b => (b = t ∨ b = q) ∨ b = x) w w')) :
    Calls Tryz.prog 86 arg w (GrowP t (ents A ++ (es.take i ++ e :: es.drop i) ++ ents B) (fun k => (k = t ∨ k = x) ∨ k ∈ Blocks (A ++ (q, es) :: B)) w) := by
  obtain ⟨hxt, hne⟩ := h.ne
  obtain ⟨nA, nB, nAB⟩ := nodup_mid h.nodup
  have hch := h.chain
  have hsz := h.sizes
  have hAl : (Blocks A).length = A.length := by simp [Blocks]
  have hsr : sibR (b0 :: bs) A.length = (Blocks B)[0]? := by rw [hbl2, ← hAl]; exact sibR_at _ _ _
  have hcount : ((ents A ++ (es.take i ++ e :: es.drop i) ++ ents B).length : Int) = (ents (A ++ (q, es) :: B)).length + 1 := by
    rw [ents_append, ents_cons]
    simp [List.length_take]
    omega
  have pA : ∀ p ∈ A, ¬ p.1 = x ∧ ¬ p.1 = t := fun p hp => hne p (by simp [hp])
  have pB : ∀ p ∈ B, ¬ p.1 = x ∧ ¬ p.1 = t := fun p hp => hne p (by simp [hp])
  have hqx := hne (q, es) (by simp)
  have hchA := ((chain_append _ _ _ _).1 hch).1
  have hch0 := ((chain_append _ _ _ _).1 hch).2.2
  have hltA := chain_lt hchA
  have hltB := chain_lt hch0
  have hBk : ∀ nb : Nat, b0 :: (bs.take A.length ++ nb :: bs.drop A.length) = Blocks A ++ q :: nb :: Blocks B := fun nb => by
    have e1 : b0 :: bs.take A.length = (b0 :: bs).take (A.length + 1) := rfl
    have e2 : bs.drop A.length = (b0 :: bs).drop (A.length + 1) := rfl
    have e3 : Blocks A ++ q :: Blocks B = (Blocks A ++ [q]) ++ Blocks B := by simp
    have e4 : (Blocks A ++ [q]).length = A.length + 1 := by simp [Blocks]
    rw [← List.cons_append, e1, e2, hbl2, e3, List.take_left' e4, List.drop_left' e4]
    simp
  cases B with
  | nil =>
    refine (Hnone rfl (by rw [hsr]; rfl) hq).mono ?_
    rintro y w' ⟨rfl, nb, s, ⟨hnew, hver, l1, l2, r1, r2, hl12, a1, a2, a3, a4, hp1, hp2⟩, hx', hc⟩
    have hE : ents (A ++ [(q, l1), (nb, l2)]) = ents A ++ (es.take i ++ e :: es.drop i) ++ ents [] := by rw [← hl12]; simp [ents]
    have hnbA : ∀ p ∈ A, ¬ p.1 = nb := fun p hp => by have := hltA p hp; omega
    have hqn : ¬ q = nb := by have := hq.lt; omega
    have hqh : hdp (A ++ [(q, l1), (nb, l2)]) (.pointer none) = hdp (A ++ [(q, es)]) (.pointer none) := by cases A <;> rfl
    have hql : lastp (.pointer none) (A ++ [(q, l1), (nb, l2)]) = ptr nb := by rw [lastp_append]; rfl
    refine grow_many (P := A ++ [(q, l1), (nb, l2)]) (x := x) ⟨?_, ⟨b0, _, s, ?_, hx'⟩, ?_, ?_, ?_, by simp⟩ hE (hc.mono (fun k _ hk => ?_)) (fun k hk => ?_)
    · rw [hE, hqh, hql, hcount]
      exact hver
    · rw [hBk nb, blocks_append]
      rfl
    · rw [chain_append]
      refine ⟨chain_chg hchA hc (fun p hp => ?_), ⟨r1, hp1⟩, ⟨r2, hp2⟩, trivial⟩
      rintro ((g | g) | g)
      · exact (pA p hp).2 g
      · exact nA p hp g
      · exact (pA p hp).1 g
    · intro p hp
      rcases List.mem_append.1 hp with hp | hp
      · exact hsz p (by simp [hp])
      · simp at hp
        rcases hp with rfl | rfl
        · exact ⟨a1, by show l1.length ≤ 128; omega⟩
        · exact ⟨a3, by show l2.length ≤ 128; omega⟩
    · have hnd := h.nodup
      rw [blocks_append] at hnd ⊢
      obtain ⟨n1, n2, n3⟩ := List.nodup_append.1 hnd
      refine List.nodup_append.2 ⟨n1, by simp [Blocks, hqn], fun a ha b hb => ?_⟩
      simp [Blocks] at hb
      rcases hb with rfl | rfl
      · exact n3 a ha _ (by simp [Blocks])
      · rintro rfl
        obtain ⟨p, hp, rfl⟩ := List.mem_map.1 ha
        exact hnbA p hp rfl
    · rcases hk with (g | g) | g
      · exact .inl (.inl g)
      · exact .inr (by rw [g]; simp [Blocks])
      · exact .inl (.inr g)
    · rcases hk with g | g
      · exact .inl (.inl g)
      · simp [Blocks] at g
        rcases g with g | g | g
        · exact .inl (.inr (by simp [Blocks]; exact .inl g))
        · exact .inl (.inr (by simp [Blocks, g]))
        · exact .inr (by omega)
  | cons b B =>
    obtain ⟨rb, rs⟩ := b
    obtain ⟨⟨sr, hrp⟩, chB⟩ := hch0
    have hsr' : sibR (b0 :: bs) A.length = some rb := by rw [hsr]; rfl
    have hrq : ¬ rb = q := nB (rb, rs) (by simp)
    have hrs : 64 ≤ rs.length ∧ rs.length ≤ 128 := hsz (rb, rs) (by simp)
    have hnr : ∀ p ∈ B, ¬ p.1 = rb := by
      have hnd := h.nodup
      rw [show A ++ (q, es) :: (rb, rs) :: B = (A ++ [(q, es)]) ++ (rb, rs) :: B by simp] at hnd
      exact (nodup_mid hnd).2.1
    have hAr : ∀ p ∈ A, ¬ p.1 = rb := fun p hp => nAB p hp (rb, rs) (by simp)
    have hrx := pB (rb, rs) (by simp)
    rcases Nat.lt_or_ge rs.length 128 with hrl | hrl
    · rcases Nat.lt_or_ge i 128 with hi2 | hi2
      · refine (Hlt rb rs sr _ _ hsr' hrp hrq hrl hi2).mono ?_
        rintro y w' ⟨rfl, h1, h2, h3, hc⟩
        have hE : ents (A ++ (q, (es.take 127).take i ++ e :: (es.take 127).drop i) :: (rb, es.drop 127 ++ rs) :: B) = ents A ++ (es.take i ++ e :: es.drop i) ++ ents ((rb, rs) :: B) := by
          rw [← take_last hi2 hl]
          simp [ents]
        have hB' : Blocks (A ++ (q, (es.take 127).take i ++ e :: (es.take 127).drop i) :: (rb, es.drop 127 ++ rs) :: B) = Blocks (A ++ (q, es) :: (rb, rs) :: B) := by simp [Blocks]
        refine grow_many (P := A ++ (q, (es.take 127).take i ++ e :: (es.take 127).drop i) :: (rb, es.drop 127 ++ rs) :: B) (x := x) ?_ hE (hc.mono (fun k _ hk => ?_)) (fun k hk => .inl (by rw [hB'] at hk; exact hk))
        · refine h.re hB' (by rw [hE, hcount]; exact h3) (chain_two hch hc (fun p hp => ?_) (fun p hp => ?_) h1 h2) (fun p hp => ?_) hc (by rintro (g | g | g); exact hxt g; exact hqx.1 g.symm; exact hrx.1 g.symm)
          · rintro (g | g | g)
            · exact (pA p hp).2 g
            · exact nA p hp g
            · exact hAr p hp g
          · rintro (g | g | g)
            · exact (pB p (by simp [hp])).2 g
            · exact nB p (by simp [hp]) g
            · exact hnr p hp g
          · rcases List.mem_append.1 hp with hp | hp
            · exact hsz p (by simp [hp])
            · rcases List.mem_cons.1 hp with rfl | hp
              · simp
                omega
              · rcases List.mem_cons.1 hp with rfl | hp
                · simp
                  omega
                · exact hsz p (by simp [hp])
        · rcases hk with g | g | g
          · exact .inl (.inl g)
          · exact .inr (by rw [g]; simp [Blocks])
          · exact .inr (by rw [g]; simp [Blocks])
      · have hi3 : i = 128 := by omega
        refine (Heq rb rs sr _ _ hsr' hrp hrl hi3).mono ?_
        rintro y w' ⟨rfl, h2, h3, hc⟩
        have hE : ents (A ++ (q, es) :: (rb, e :: rs) :: B) = ents A ++ (es.take i ++ e :: es.drop i) ++ ents ((rb, rs) :: B) := by
          rw [List.take_of_length_le (by omega), List.drop_of_length_le (by omega)]
          simp [ents]
        have hB' : Blocks (A ++ (q, es) :: (rb, e :: rs) :: B) = Blocks (A ++ (q, es) :: (rb, rs) :: B) := by simp [Blocks]
        have hq' : PageAt w' q es sq (ptr rb) (lastp (.pointer none) A) := hq.chg hc (by rintro (g | g); exact hqx.2 g; exact hrq g.symm)
        refine grow_many (P := A ++ (q, es) :: (rb, e :: rs) :: B) (x := x) ?_ hE (hc.mono (fun k _ hk => ?_)) (fun k hk => .inl (by rw [hB'] at hk; exact hk))
        · refine h.re hB' (by rw [hE, hcount]; exact h3) (chain_two hch hc (fun p hp => ?_) (fun p hp => ?_) ⟨sq, hq'⟩ h2) (fun p hp => ?_) hc (by rintro (g | g); exact hxt g; exact hrx.1 g.symm)
          · rintro (g | g)
            · exact (pA p hp).2 g
            · exact hAr p hp g
          · rintro (g | g)
            · exact (pB p (by simp [hp])).2 g
            · exact hnr p hp g
          · rcases List.mem_append.1 hp with hp | hp
            · exact hsz p (by simp [hp])
            · rcases List.mem_cons.1 hp with rfl | hp
              · exact hsz _ (by simp)
              · rcases List.mem_cons.1 hp with rfl | hp
                · simp
                  omega
                · exact hsz p (by simp [hp])
        · rcases hk with g | g
          · exact .inl (.inl g)
          · exact .inr (by rw [g]; simp [Blocks])
    · refine (Hfull rb rs sr _ hsr' hq hrp hrq (by omega)).mono ?_
      rintro y w' ⟨rfl, nb, s, ⟨hnew, hver, l1, l2, r1, r2, hl12, a1, a2, a3, a4, hp1, hp2⟩, hx', hrp', hc⟩
      have hE : ents (A ++ (q, l1) :: (nb, l2) :: (rb, rs) :: B) = ents A ++ (es.take i ++ e :: es.drop i) ++ ents ((rb, rs) :: B) := by rw [← hl12]; simp [ents]
      have hqh : hdp (A ++ (q, l1) :: (nb, l2) :: (rb, rs) :: B) (.pointer none) = hdp (A ++ (q, es) :: (rb, rs) :: B) (.pointer none) := by cases A <;> rfl
      have hql : lastp (.pointer none) (A ++ (q, l1) :: (nb, l2) :: (rb, rs) :: B) = lastp (.pointer none) (A ++ (q, es) :: (rb, rs) :: B) := by rw [lastp_append, lastp_append]; rfl
      have hnbA : ∀ p ∈ A, ¬ p.1 = nb := fun p hp => by have := hltA p hp; omega
      have hnbB : ∀ p ∈ ((rb, rs) :: B : List Pg), ¬ p.1 = nb := fun p hp => by have := hltB p hp; omega
      have hqn : ¬ q = nb := by have := hq.lt; omega
      refine grow_many (P := A ++ (q, l1) :: (nb, l2) :: (rb, rs) :: B) (x := x) ⟨?_, ⟨b0, _, s, ?_, hx'⟩, ?_, ?_, ?_, by simp; omega⟩ hE (hc.mono (fun k _ hk => ?_)) (fun k hk => ?_)
      · rw [hE, hqh, hql, hcount]
        exact hver
      · rw [hBk nb, blocks_append]
        rfl
      · rw [chain_append]
        refine ⟨chain_chg hchA hc (fun p hp => ?_), ⟨r1, hp1⟩, ⟨r2, hp2⟩, ⟨sr, hrp'⟩, chain_chg chB hc (fun p hp => ?_)⟩
        · rintro ((g | g | g) | g)
          · exact (pA p hp).2 g
          · exact nA p hp g
          · exact hAr p hp g
          · exact (pA p hp).1 g
        · rintro ((g | g | g) | g)
          · exact (pB p (by simp [hp])).2 g
          · exact nB p (by simp [hp]) g
          · exact hnr p hp g
          · exact (pB p (by simp [hp])).1 g
      · intro p hp
        rcases List.mem_append.1 hp with hp | hp
        · exact hsz p (by simp [hp])
        · rcases List.mem_cons.1 hp with rfl | hp
          · exact ⟨a1, by show l1.length ≤ 128; omega⟩
          · rcases List.mem_cons.1 hp with rfl | hp
            · exact ⟨a3, by show l2.length ≤ 128; omega⟩
            · exact hsz p (by simp; exact .inr (.inr (by simpa using hp)))
      · have hnd := h.nodup
        rw [blocks_append, blocks_cons] at hnd ⊢
        obtain ⟨n1, n2, n3⟩ := List.nodup_append.1 hnd
        obtain ⟨n4, n5⟩ := List.nodup_cons.1 n2
        rw [blocks_cons]
        refine List.nodup_append.2 ⟨n1, List.nodup_cons.2 ⟨?_, List.nodup_cons.2 ⟨?_, n5⟩⟩, fun a ha b hb => ?_⟩
        · intro hm
          rcases List.mem_cons.1 hm with hm | hm
          · exact hqn hm
          · exact n4 hm
        · intro hm
          obtain ⟨p, hp, hpe⟩ := List.mem_map.1 hm
          exact hnbB p hp hpe
        · rcases List.mem_cons.1 hb with rfl | hb
          · exact n3 a ha _ (by simp)
          · rcases List.mem_cons.1 hb with rfl | hb
            · rintro rfl
              obtain ⟨p, hp, rfl⟩ := List.mem_map.1 ha
              exact hnbA p hp rfl
            · exact n3 a ha b (by simp; exact .inr hb)
      · rcases hk with (g | g | g) | g
        · exact .inl (.inl g)
        · exact .inr (by rw [g]; simp [Blocks])
        · exact .inr (by rw [g]; simp [Blocks])
        · exact .inl (.inr g)
      · rcases hk with g | g
        · exact .inl (.inl g)
        · rw [blocks_append, blocks_cons, blocks_cons] at g
          rcases List.mem_append.1 g with g | g
          · exact .inl (.inr (by rw [blocks_append]; exact List.mem_append.2 (.inl g)))
          · rcases List.mem_cons.1 g with g | g
            · exact .inl (.inr (by rw [g]; simp [Blocks]))
            · rcases List.mem_cons.1 g with g | g
              · exact .inr (by omega)
              · exact .inl (.inr (by rw [blocks_append, blocks_cons]; exact List.mem_append.2 (.inr (List.mem_cons.2 (.inr g)))))

theorem over_root (t x q i : Nat) (A B : List Pg) (es : List XE) (e : XE) (w : World) (h : Rooted w t x (A ++ (q, es) :: B) (ents (A ++ (q, es) :: B)).length) (hl : es.length = 128) (hi : i ≤ 128) (hi1 : A ≠ [] → 1 ≤ i)
    (hlen : (A ++ (q, es) :: B).length ≤ 200) :
    Calls Tryz.prog 86 #[.pointer (some ⟨t, 0, none⟩), .pointer (some ⟨x, 0, none⟩), .pointer (some ⟨q, 0, none⟩), .int .i64 A.length, .int .i64 i, .agg #[.slice e.A e.m e.p, .int .i64 e.h], .int .i64 e.n] w
      (GrowP t (ents A ++ (es.take i ++ e :: es.drop i) ++ ents B) (fun k => (k = t ∨ k = x) ∨ k ∈ Blocks (A ++ (q, es) :: B)) w) := by
  obtain ⟨hxt, hne⟩ := h.ne
  obtain ⟨nA, nB, nAB⟩ := nodup_mid h.nodup
  obtain ⟨ver, ht⟩ := h.tree
  obtain ⟨b0, bs, xr, hbl, hx⟩ := h.root
  have hch := h.chain
  rw [chain_append] at hch
  obtain ⟨chA, ⟨sq, hq⟩, chB⟩ := hch
  have hsz := h.sizes
  have hlenb : bs.length = A.length + B.length := by
    have := congrArg List.length hbl
    simp [Blocks] at this
    omega
  have hcnt : (ents (A ++ (q, es) :: B)).length ≤ 25600 := by have := ents_le hsz; omega
  have hk : A.length ≤ bs.length := by omega
  have hbs : bs.length ≤ 250 := by simp at hlen; omega
  have hbl2 : b0 :: bs = Blocks A ++ q :: Blocks B := by rw [← hbl, blocks_append, blocks_cons]
  have hAl : (Blocks A).length = A.length := by simp [Blocks]
  have hsr : sibR (b0 :: bs) A.length = (Blocks B)[0]? := by rw [hbl2, ← hAl]; exact sibR_at _ _ _
  have hcount : ((ents A ++ (es.take i ++ e :: es.drop i) ++ ents B).length : Int) = (ents (A ++ (q, es) :: B)).length + 1 := by
    rw [ents_append, ents_cons]
    simp [List.length_take]
    omega
  have hq2 : 64 ≤ es.length ∧ es.length ≤ 128 := ⟨by omega, by omega⟩
  have pA : ∀ p ∈ A, ¬ p.1 = x ∧ ¬ p.1 = t := fun p hp => hne p (by simp [hp])
  have pB : ∀ p ∈ B, ¬ p.1 = x ∧ ¬ p.1 = t := fun p hp => hne p (by simp [hp])
  have hqx := hne (q, es) (by simp)
  -- the neighbour ahead
  rcases List.eq_nil_or_concat A with hA | ⟨A', ⟨lb, ls⟩, hA⟩
  · subst hA
    have hsl : sibL (b0 :: bs) ([] : List Pg).length = none := rfl
    refine over_rest t x q i [] B es e w h hl hi b0 bs hbl2 sq hq ?_ ?_ ?_ ?_
    · exact fun rb rs sr nr pr g1 g2 g3 g4 g5 => ov_none_room_lt t q x b0 _ bs es sq xr _ _ e _ _ _ _ ver w i rb rs sr nr pr hq ht hx hk hbs hl (by omega) (by omega) hsl g1 g2 g3 g4 g5
    · exact fun rb rs sr nr pr g1 g2 g4 g5 => ov_none_room_eq t q x b0 _ bs es sq xr _ _ e _ _ _ _ ver w i rb rs sr nr pr hq ht hx hk hbs hl (by omega) (by omega) hsl g1 g2 g4 g5
    · exact fun rb rs sr nr g1 g0 g2 g3 g4 => ov_none_full_any t q x b0 _ bs es sq xr _ e _ _ _ _ ver w i rb rs sr nr g0 ht hx hk hbs hl (by omega) (by omega) hsl g1 g2 g3 g4 hi
    · intro hB
      have := h.two
      rw [hB] at this
      simp at this
  · have hA' : A = A' ++ [(lb, ls)] := by simpa using hA
    subst hA'
    have hsl : sibL (b0 :: bs) (A' ++ [(lb, ls)]).length = some lb := by
      rw [hbl2, blocks_append, show (A' ++ [(lb, ls)]).length = (Blocks A').length + 1 by simp [Blocks]]
      exact sibL_last _ _ _ _
    rw [chain_append] at chA
    obtain ⟨chA', ⟨sl, hlp⟩, _⟩ := chA
    have hlq : ¬ lb = q := nA (lb, ls) (by simp)
    have hls : 64 ≤ ls.length ∧ ls.length ≤ 128 := hsz (lb, ls) (by simp)
    rcases Nat.lt_or_ge ls.length 128 with hll | hll
    · refine (ov_room_any_any t q x b0 _ bs es sq xr _ _ e _ _ _ _ ver w i lb ls sl _ _ hq ht hx hk hbs hl (by omega) (by omega) hsl hlp hlq hll hi (hi1 (by simp))).mono ?_
      rintro y w' ⟨rfl, h1, h2, h3, hc⟩
      have hS : ∀ p ∈ A', ¬ (p.1 = t ∨ p.1 = lb ∨ p.1 = q) := by
        intro p hp
        rintro (g | g | g)
        · exact (pA p (by simp [hp])).2 g
        · have hnd := h.nodup
          rw [List.append_assoc] at hnd
          exact (nodup_mid (A := A') (q := lb) (es := ls) (B := (q, es) :: B) (by simpa using hnd)).1 p hp g
        · exact nA p (by simp [hp]) g
      have hSB : ∀ p ∈ B, ¬ (p.1 = t ∨ p.1 = lb ∨ p.1 = q) := by
        intro p hp
        rintro (g | g | g)
        · exact (pB p hp).2 g
        · exact nAB (lb, ls) (by simp) p hp g.symm
        · exact nB p hp g
      have hE : ents (A' ++ (lb, ls ++ es.take 1) :: (q, (es.drop 1).take (i - 1) ++ e :: (es.drop 1).drop (i - 1)) :: B) = ents (A' ++ [(lb, ls)]) ++ (es.take i ++ e :: es.drop i) ++ ents B := by
        rw [← take_drop_one (hi1 (by simp)) (by omega)]
        simp [ents]
      have hB' : Blocks (A' ++ (lb, ls ++ es.take 1) :: (q, (es.drop 1).take (i - 1) ++ e :: (es.drop 1).drop (i - 1)) :: B) = Blocks (A' ++ [(lb, ls)] ++ (q, es) :: B) := by simp [Blocks]
      have hch2 : Chain w (.pointer none) (A' ++ (lb, ls) :: (q, es) :: B) (.pointer none) := by have := h.chain; rw [List.append_assoc] at this; exact this
      have hlast : lastp (.pointer none) (A' ++ [(lb, ls)]) = ptr lb := by rw [lastp_append]; rfl
      rw [hlast] at h2
      refine grow_many (P := A' ++ (lb, ls ++ es.take 1) :: (q, (es.drop 1).take (i - 1) ++ e :: (es.drop 1).drop (i - 1)) :: B) (x := x) ?_ hE (hc.mono (fun k _ hk => ?_)) (fun k hk => .inl (by rw [hB'] at hk; exact hk))
      · refine h.re hB' (by rw [hE, hcount]; exact h3) (chain_two hch2 hc hS hSB h1 h2) (fun p hp => ?_) hc (by rintro (g | g | g); exact hxt g; exact (hne (lb, ls) (by simp)).1 g.symm; exact hqx.1 g.symm)
        rcases List.mem_append.1 hp with hp | hp
        · exact hsz p (by simp [hp])
        · rcases List.mem_cons.1 hp with rfl | hp
          · simp
            omega
          · rcases List.mem_cons.1 hp with rfl | hp
            · have := hi1 (by simp)
              simp
              omega
            · exact hsz p (by simp [hp])
      · rcases hk with g | g | g
        · exact .inl (.inl g)
        · exact .inr (by rw [g]; simp [Blocks])
        · exact .inr (by rw [g]; simp [Blocks])
    · have hll2 : ls.length = 128 := by omega
      refine over_rest t x q i (A' ++ [(lb, ls)]) B es e w h hl hi b0 bs hbl2 sq hq ?_ ?_ ?_ ?_
      · exact fun rb rs sr nr pr g1 g2 g3 g4 g5 => ov_full_room_lt t q x b0 _ bs es sq xr _ _ e _ _ _ _ ver w i lb ls sl _ _ rb rs sr nr pr hq ht hx hk hbs hl (by omega) (by omega) hsl hlp hll2 g1 g2 g3 g4 g5
      · exact fun rb rs sr nr pr g1 g2 g4 g5 => ov_full_room_eq t q x b0 _ bs es sq xr _ _ e _ _ _ _ ver w i lb ls sl _ _ rb rs sr nr pr hq ht hx hk hbs hl (by omega) (by omega) hsl hlp hll2 g1 g2 g4 g5
      · exact fun rb rs sr nr g1 g0 g2 g3 g4 => ov_full_full_any t q x b0 _ bs es sq xr _ e _ _ _ _ ver w i lb ls sl _ _ rb rs sr nr g0 ht hx hk hbs hl (by omega) (by omega) hsl hlp hll2 g1 g2 g3 g4 hi
      · exact fun _ g1 g0 => ov_full_none_any t q x b0 _ bs es sq xr _ e _ _ _ _ ver w i lb ls sl _ _ g0 ht hx hk hbs hl (by omega) (by omega) hsl hlp hll2 g1 hi

end Go.Proofs.YtffgkocokkhahaaGreatDoor

/- Walking the tree: each entry in its turn, on and back. -/
namespace Go.Proofs.YtffgkocokkhahaaGreatDoor
open Go.RowKit

theorem chain_at {w : World} {A B : List Pg} {q : Nat} {es : List XE} (h : Chain w (.pointer none) (A ++ (q, es) :: B) (.pointer none)) : ∃ rest, PageAt w q es rest (hdp B (.pointer none)) (lastp (.pointer none) A) := ((chain_append _ _ _ _).1 h).2.1

/-- At the g-th entry, or behind the last one. -/
inductive AtN (P : List Pg) (w : World) (b t : Nat) (ver : Int) (uni : Bool) (E : Value) : Nat → Prop where
  | at_ {A B : List Pg} {q : Nat} {es : List XE} {i : Nat} {hit : Bool} {C : Option Addr} {m p : Nat} {kh : Int} (hP : P = A ++ (q, es) :: B) (hi : i < es.length) (h : EnumAt w b .nilIface hit i (.slice C m p) kh (ptr q) t ver uni) : AtN P w b t ver uni E ((ents A).length + i)
  | end_ {i : Nat} {hit : Bool} {kv : Value} {kh : Int} (h : EnumAt w b E hit i kv kh (.pointer none) t ver uni) : AtN P w b t ver uni E (ents P).length

/-- At the g-th entry behind g others, or ahead of the first one (0). -/
inductive AtP (P : List Pg) (w : World) (b t : Nat) (ver : Int) (uni : Bool) (E : Value) : Nat → Prop where
  | at_ {A B : List Pg} {q : Nat} {es : List XE} {i : Nat} {hit : Bool} {C : Option Addr} {m p : Nat} {kh : Int} (hP : P = A ++ (q, es) :: B) (hi : i < es.length) (h : EnumAt w b .nilIface hit i (.slice C m p) kh (ptr q) t ver uni) : AtP P w b t ver uni E ((ents A).length + i + 1)
  | end_ {i : Nat} {hit : Bool} {kv : Value} {kh : Int} (h : EnumAt w b E hit i kv kh (.pointer none) t ver uni) : AtP P w b t ver uni E 0

theorem ents_at {A B : List Pg} {q : Nat} {es : List XE} {i : Nat} {x : XE} (h : (ents (A ++ (q, es) :: B))[(ents A).length + i]? = some x) (hi : i < es.length) : es[i]? = some x := by
  rw [ents_append, ents_cons, List.getElem?_append_right (by omega), show (ents A).length + i - (ents A).length = i by omega, List.getElem?_append_left hi] at h
  exact h

def GotP (x : XE) (b : Nat) (Q : World → Prop) (w : World) (y : Ending) (w' : World) : Prop :=
  y = .returned (.tuple #[.agg #[.slice x.A x.m x.p, .int .i64 x.h], .int .i64 x.n, .nilIface]) ∧ Q w' ∧ Chg (fun k => k = b) w w'

theorem Next_step {P : List Pg} {b t : Nat} {ver : Int} {uni : Bool} {E : Value} {g : Nat} {c : Int} {fi la r : Value} {w : World} (x : XE) (hch : Chain w (.pointer none) P (.pointer none)) (hn : ∀ p ∈ P, 1 ≤ p.2.length)
    (ht : TreeW w t c fi la r ver) (hE : HasEof w E) (hbE : ¬ 4 = b) (h : AtN P w b t ver uni E g) (hx : (ents P)[g]? = some x) :
    Calls Tryz.prog 147 #[.pointer (some ⟨b, 0, none⟩)] w (GotP x b (fun w' => AtN P w' b t ver uni E (g + 1)) w) := by
  cases h with
  | end_ h => simp at hx
  | at_ hP hi h =>
    rename_i A B q es i hit C m p kh
    subst hP
    obtain ⟨rest, hq⟩ := chain_at hch
    have hxi := ents_at hx hi
    have hbq : ¬ q = b := fun e => tag_ne h hq.heap (by decide) e.symm
    rcases Nat.lt_or_ge (i + 1) es.length with h1 | h1
    · refine (Next_at b q i hit _ kh t ver uni es rest _ _ x c fi la r w h hq hxi ht ⟨_, _, _, rfl⟩ .nilIface (i + 1) (ptr q) (Lib.hid fun w1 hc1 he1 => next_in b q i false _ _ t ver uni es rest _ _ w1 he1 (hq.chg hc1 hbq) h1)).mono ?_
      rintro y w' ⟨rfl, he, hc⟩
      exact ⟨rfl, .at_ (i := i + 1) rfl h1 he, hc⟩
    · have h2 : i + 1 = es.length := by omega
      cases B with
      | nil =>
        refine (Next_at b q i hit _ kh t ver uni es rest _ _ x c fi la r w h hq hxi ht ⟨_, _, _, rfl⟩ E 0 (.pointer none) (Lib.hid fun w1 hc1 he1 => next_end b q i false _ _ t ver uni es rest _ E w1 he1 (hq.chg hc1 hbq) h2 (hE.chg hc1 hbE) hbE)).mono ?_
        rintro y w' ⟨rfl, he, hc⟩
        have e1 : (ents A).length + i + 1 = (ents (A ++ [(q, es)])).length := by rw [ents_append]; simp [ents]; omega
        refine ⟨rfl, ?_, hc⟩
        show AtN _ w' b t ver uni E ((ents A).length + i + 1)
        rw [e1]
        exact .end_ he
      | cons p2 B =>
        obtain ⟨q2, es2⟩ := p2
        refine (Next_at b q i hit _ kh t ver uni es rest _ _ x c fi la r w h hq hxi ht ⟨_, _, _, rfl⟩ .nilIface 0 (ptr q2) (Lib.hid fun w1 hc1 he1 => next_page b q i q2 false _ _ t ver uni es rest _ w1 he1 (hq.chg hc1 hbq) h2)).mono ?_
        rintro y w' ⟨rfl, he, hc⟩
        have e1 : (ents A).length + i + 1 = (ents (A ++ [(q, es)])).length + 0 := by rw [ents_append]; simp [ents]; omega
        refine ⟨rfl, ?_, hc⟩
        show AtN _ w' b t ver uni E ((ents A).length + i + 1)
        rw [e1]
        exact .at_ (A := A ++ [(q, es)]) (B := B) (q := q2) (es := es2) (by simp) (hn (q2, es2) (by simp)) he

theorem Prev_step {P : List Pg} {b t : Nat} {ver : Int} {uni : Bool} {E : Value} {g : Nat} {c : Int} {fi la r : Value} {w : World} (x : XE) (hch : Chain w (.pointer none) P (.pointer none)) (hn : ∀ p ∈ P, 1 ≤ p.2.length)
    (ht : TreeW w t c fi la r ver) (hE : HasEof w E) (hbE : ¬ 4 = b) (h : AtP P w b t ver uni E (g + 1)) (hx : (ents P)[g]? = some x) :
    Calls Tryz.prog 148 #[.pointer (some ⟨b, 0, none⟩)] w (GotP x b (fun w' => AtP P w' b t ver uni E g) w) := by
  cases h with
  | at_ hP hi h =>
    rename_i A B q es i hit C m p kh
    subst hP
    obtain ⟨rest, hq⟩ := chain_at hch
    have hxi := ents_at hx hi
    have hbq : ¬ q = b := fun e => tag_ne h hq.heap (by decide) e.symm
    have hle := hq.le
    cases i with
    | succ j =>
      refine (Prev_at b q (j + 1) hit _ kh t ver uni es rest _ _ x c fi la r w h hq hxi ht ⟨_, _, _, rfl⟩ .nilIface j (ptr q) (Lib.hid fun w1 hc1 he1 => prev_in b q (j + 1) j false _ _ t ver uni w1 he1 rfl (by omega))).mono ?_
      rintro y w' ⟨rfl, he, hc⟩
      exact ⟨rfl, .at_ (i := j) rfl (by omega) he, hc⟩
    | zero =>
      rcases List.eq_nil_or_concat A with hA | ⟨A', ⟨q2, es2⟩, hA⟩
      · subst hA
        refine (Prev_at b q 0 hit _ kh t ver uni es rest _ _ x c fi la r w h hq hxi ht ⟨_, _, _, rfl⟩ E 0 (.pointer none) (Lib.hid fun w1 hc1 he1 => prev_end b q false _ _ t ver uni es rest _ E w1 he1 (hq.chg hc1 hbq) (hE.chg hc1 hbE) hbE)).mono ?_
        rintro y w' ⟨rfl, he, hc⟩
        exact ⟨rfl, .end_ he, hc⟩
      · have hA' : A = A' ++ [(q2, es2)] := by simpa using hA
        subst hA'
        have hl : lastp (.pointer none) (A' ++ [(q2, es2)]) = ptr q2 := by rw [lastp_append]; rfl
        rw [hl] at hq
        have hch2 : Chain w (.pointer none) (A' ++ (q2, es2) :: (q, es) :: B) (.pointer none) := by rw [List.append_assoc] at hch; exact hch
        obtain ⟨rest2, hq2⟩ := chain_at hch2
        have hbq2 : ¬ q2 = b := fun e => tag_ne h hq2.heap (by decide) e.symm
        obtain ⟨j, hj⟩ : ∃ j, es2.length = j + 1 := ⟨es2.length - 1, by have : 1 ≤ es2.length := hn (q2, es2) (by simp); omega⟩
        refine (Prev_at b q 0 hit _ kh t ver uni es rest _ _ x c fi la r w h hq hxi ht ⟨_, _, _, rfl⟩ .nilIface j (ptr q2) (Lib.hid fun w1 hc1 he1 => prev_page b q q2 j false _ _ t ver uni es es2 rest rest2 _ _ _ w1 he1 (hq.chg hc1 hbq) (hq2.chg hc1 hbq2) hj)).mono ?_
        rintro y w' ⟨rfl, he, hc⟩
        have e1 : (ents (A' ++ [(q2, es2)])).length + 0 = (ents A').length + j + 1 := by rw [ents_append]; simp [ents]; omega
        refine ⟨rfl, ?_, hc⟩
        show AtP _ w' b t ver uni E ((ents (A' ++ [(q2, es2)])).length + 0)
        rw [e1]
        exact .at_ (A := A') (B := (q, es) :: B) (q := q2) (es := es2) (by simp) (by omega) he

end Go.Proofs.YtffgkocokkhahaaGreatDoor

/- Walking the index: (*xenumerator2).Next, Prev, not unique. PRINTED BY wip/tpl/gen_xk.py. -/
namespace Go.Proofs.YtffgkocokkhahaaGreatDoor
open Go.RowKit

theorem AtN.uni {P : List Pg} {w : World} {b t : Nat} {ver : Int} {uni : Bool} {E : Value} {g : Nat} (h : AtN P w b t ver uni E g) : w.cell? ⟨b, 8, none⟩ = some (.bool uni) := by
  cases h with
  | at_ _ _ h => exact cell_of_heap h 8
  | end_ h => exact cell_of_heap h 8
theorem AtP.uni {P : List Pg} {w : World} {b t : Nat} {ver : Int} {uni : Bool} {E : Value} {g : Nat} (h : AtP P w b t ver uni E g) : w.cell? ⟨b, 8, none⟩ = some (.bool uni) := by
  cases h with
  | at_ _ _ h => exact cell_of_heap h 8
  | end_ h => exact cell_of_heap h 8
theorem AtN.lt {P : List Pg} {w : World} {b t : Nat} {ver : Int} {uni : Bool} {E : Value} {g : Nat} (h : AtN P w b t ver uni E g) : b < w.heap.size := by
  cases h with
  | at_ _ _ h => exact lt_of_heap h
  | end_ h => exact lt_of_heap h
theorem AtP.lt {P : List Pg} {w : World} {b t : Nat} {ver : Int} {uni : Bool} {E : Value} {g : Nat} (h : AtP P w b t ver uni E g) : b < w.heap.size := by
  cases h with
  | at_ _ _ h => exact lt_of_heap h
  | end_ h => exact lt_of_heap h
theorem AtN.chg {P : List Pg} {w w' : World} {b t : Nat} {ver : Int} {uni : Bool} {E : Value} {g : Nat} {S : Nat → Prop} (h : AtN P w b t ver uni E g) (hc : Chg S w w') (hn : ¬ S b) : AtN P w' b t ver uni E g := by
  cases h with
  | at_ hP hi h => exact .at_ hP hi (heap_chg h hc hn)
  | end_ h => exact .end_ (heap_chg h hc hn)
theorem AtP.chg {P : List Pg} {w w' : World} {b t : Nat} {ver : Int} {uni : Bool} {E : Value} {g : Nat} {S : Nat → Prop} (h : AtP P w b t ver uni E g) (hc : Chg S w w') (hn : ¬ S b) : AtP P w' b t ver uni E g := by
  cases h with
  | at_ hP hi h => exact .at_ hP hi (heap_chg h hc hn)
  | end_ h => exact .end_ (heap_chg h hc hn)

def Got2 (x : XE) (b : Nat) (Q : World → Prop) (w : World) (y : Ending) (w' : World) : Prop :=
  y = .returned (.tuple #[.slice x.A x.m x.p, .int .i64 x.h, .nilIface]) ∧ Q w' ∧ Chg (fun k => k = b) w w'

set_option maxRecDepth 100000 in
set_option maxHeartbeats 1000000 in
theorem Next2_step {P : List Pg} {b t : Nat} {ver : Int} {E : Value} {g : Nat} {c : Int} {fi la r : Value} {w : World} (x : XE) (hch : Chain w (.pointer none) P (.pointer none)) (hn : ∀ p ∈ P, 1 ≤ p.2.length)
    (ht : TreeW w t c fi la r ver) (hE : HasEof w E) (hbE : ¬ 4 = b) (h : AtN P w b t ver false E g) (hx : (ents P)[g]? = some x) :
    Calls Tryz.prog 151 #[.pointer (some ⟨b, 0, none⟩)] w (Got2 x b (fun w' => AtN P w' b t ver false E (g + 1)) w) := by
  have HN := Lib.hid (Next_step x hch hn ht hE hbE h hx)
  clear hch hn ht hE h hx
  go_enter Tryz.func151, Tryz.ntmps151
  go_wp2_with (go_at_call 147; refine HN.out.mono ?_; rintro y w1 ⟨rfl, hq, hc⟩; have HQ := Lib.hid hq; have HC := Lib.hid hc; have cu := hq.uni; have lb := hq.lt; clear hq hc)
  go_region
  go_wp2
  go_ret3
  exact ⟨rfl, HQ.out.chg ((Chg.refl (fun _ => False) w1).alloc _).drew (fun h => h), (HC.out.alloc _).drew⟩

set_option maxRecDepth 100000 in
set_option maxHeartbeats 1000000 in
theorem Next_stop {b t : Nat} {ver : Int} {uni : Bool} {E : Value} {i : Int} {hit : Bool} {kv : Value} {kh : Int} {w : World} (hE : ∃ a, E = .iface 194 (.pointer (some a))) (h : EnumAt w b E hit i kv kh (.pointer none) t ver uni) :
    Calls Tryz.prog 147 #[.pointer (some ⟨b, 0, none⟩)] w fun y w' => y = .returned (.tuple #[.agg #[.slice none 0 0, .int .i64 0], .int .i64 0, E]) ∧ Below w.heap.size w w' := by
  obtain ⟨a, rfl⟩ := hE
  have c0 := cell_of_heap h 0
  have lb := lt_of_heap h
  clear h
  go_enter Tryz.func147, Tryz.ntmps147
  go_wp2
  exact bodyPost_ret (v := .tuple #[.agg #[.slice none 0 0, .int .i64 0], .int .i64 0, .iface 194 (.pointer (some a))]) (by simp [results, Tryz.results147, go_sem]) rfl ⟨rfl, (Below.refl _ _).alloc (Nat.le_refl _) _⟩

set_option maxRecDepth 100000 in
set_option maxHeartbeats 1000000 in
theorem Next2_stop {b t : Nat} {ver : Int} {uni : Bool} {E : Value} {i : Int} {hit : Bool} {kv : Value} {kh : Int} {w : World} (hE : ∃ a, E = .iface 194 (.pointer (some a))) (h : EnumAt w b E hit i kv kh (.pointer none) t ver uni) :
    Calls Tryz.prog 151 #[.pointer (some ⟨b, 0, none⟩)] w fun y w' => y = .returned (.tuple #[.slice none 0 0, .int .i64 (-1), E]) ∧ Below w.heap.size w w' := by
  have HN := Lib.hid (Next_stop hE h)
  obtain ⟨a, rfl⟩ := hE
  clear h
  go_enter Tryz.func151, Tryz.ntmps151
  go_wp2_with (go_at_call 147; refine HN.out.mono ?_; rintro y w1 ⟨rfl, hb1⟩)
  go_ret3
  exact ⟨rfl, hb1.alloc hb1.size _⟩

set_option maxRecDepth 100000 in
set_option maxHeartbeats 1000000 in
theorem Prev2_step {P : List Pg} {b t : Nat} {ver : Int} {E : Value} {g : Nat} {c : Int} {fi la r : Value} {w : World} (x : XE) (hch : Chain w (.pointer none) P (.pointer none)) (hn : ∀ p ∈ P, 1 ≤ p.2.length)
    (ht : TreeW w t c fi la r ver) (hE : HasEof w E) (hbE : ¬ 4 = b) (h : AtP P w b t ver false E (g + 1)) (hx : (ents P)[g]? = some x) :
    Calls Tryz.prog 152 #[.pointer (some ⟨b, 0, none⟩)] w (Got2 x b (fun w' => AtP P w' b t ver false E g) w) := by
  have HN := Lib.hid (Prev_step x hch hn ht hE hbE h hx)
  clear hch hn ht hE h hx
  go_enter Tryz.func152, Tryz.ntmps152
  go_wp2_with (go_at_call 148; refine HN.out.mono ?_; rintro y w1 ⟨rfl, hq, hc⟩; have HQ := Lib.hid hq; have HC := Lib.hid hc; have cu := hq.uni; have lb := hq.lt; clear hq hc)
  go_region
  go_wp2
  go_ret3
  exact ⟨rfl, HQ.out.chg ((Chg.refl (fun _ => False) w1).alloc _).drew (fun h => h), (HC.out.alloc _).drew⟩

set_option maxRecDepth 100000 in
set_option maxHeartbeats 1000000 in
theorem Prev_stop {b t : Nat} {ver : Int} {uni : Bool} {E : Value} {i : Int} {hit : Bool} {kv : Value} {kh : Int} {w : World} (hE : ∃ a, E = .iface 194 (.pointer (some a))) (h : EnumAt w b E hit i kv kh (.pointer none) t ver uni) :
    Calls Tryz.prog 148 #[.pointer (some ⟨b, 0, none⟩)] w fun y w' => y = .returned (.tuple #[.agg #[.slice none 0 0, .int .i64 0], .int .i64 0, E]) ∧ Below w.heap.size w w' := by
  obtain ⟨a, rfl⟩ := hE
  have c0 := cell_of_heap h 0
  have lb := lt_of_heap h
  clear h
  go_enter Tryz.func148, Tryz.ntmps148
  go_wp2
  exact bodyPost_ret (v := .tuple #[.agg #[.slice none 0 0, .int .i64 0], .int .i64 0, .iface 194 (.pointer (some a))]) (by simp [results, Tryz.results148, go_sem]) rfl ⟨rfl, (Below.refl _ _).alloc (Nat.le_refl _) _⟩

set_option maxRecDepth 100000 in
set_option maxHeartbeats 1000000 in
theorem Prev2_stop {b t : Nat} {ver : Int} {uni : Bool} {E : Value} {i : Int} {hit : Bool} {kv : Value} {kh : Int} {w : World} (hE : ∃ a, E = .iface 194 (.pointer (some a))) (h : EnumAt w b E hit i kv kh (.pointer none) t ver uni) :
    Calls Tryz.prog 152 #[.pointer (some ⟨b, 0, none⟩)] w fun y w' => y = .returned (.tuple #[.slice none 0 0, .int .i64 (-1), E]) ∧ Below w.heap.size w w' := by
  have HN := Lib.hid (Prev_stop hE h)
  obtain ⟨a, rfl⟩ := hE
  clear h
  go_enter Tryz.func152, Tryz.ntmps152
  go_wp2_with (go_at_call 148; refine HN.out.mono ?_; rintro y w1 ⟨rfl, hb1⟩)
  go_ret3
  exact ⟨rfl, hb1.alloc hb1.size _⟩

end Go.Proofs.YtffgkocokkhahaaGreatDoor

/- The first and the last entry of an index. -/
namespace Go.Proofs.YtffgkocokkhahaaGreatDoor
open Go.RowKit

/-- An index: the store, its tree, whether it is unique. -/
def IdxW (w : World) (x m t : Nat) (uni : Bool) : Prop := w.heap[x]? = some (.cells #[ptr m, ptr t, .bool uni] 129 (0, 0))

def EnumP (i : Int) (e : XE) (q t : Nat) (ver : Int) (w : World) (y : Ending) (w' : World) : Prop :=
  ∃ N, y = .returned (.tuple #[.pointer (some ⟨N, 0, none⟩), .nilIface]) ∧
    w'.heap[N]? = some (.cells #[.nilIface, .bool true, .int .i64 i, .slice e.A e.m e.p, .int .i64 e.h, ptr q, ptr t, .int .i64 ver] 151 (0, 0)) ∧ w.heap.size ≤ N ∧ Below w.heap.size w w'

set_option maxRecDepth 100000 in
set_option maxHeartbeats 1000000 in
theorem tree_first {q t : Nat} {es : List XE} {rest : List Value} {nx pv : Value} {e : XE} {c : Int} {la r : Value} {ver : Int} {w : World} (hq : PageAt w q es rest nx pv) (he : es[0]? = some e) (ht : TreeW w t c (ptr q) la r ver) :
    Calls Tryz.prog 71 #[.pointer (some ⟨t, 0, none⟩)] w (EnumP 0 e q t ver w) := by
  have c1 : w.cell? ⟨t, 1, none⟩ = some (.pointer (some ⟨q, 0, none⟩)) := cell_of_heap ht 1
  have c4 : w.cell? ⟨t, 4, none⟩ = some (.int .i64 ver) := cell_of_heap ht 4
  have e0 : w.cell? ⟨q, 1, none⟩ = some (.slice e.A e.m e.p) := (hq.cell _).trans (by have := pgL_at XE.cells 3 XE.three es rest [nx, pv] 0 0 e _ he (by omega) rfl; exact this)
  have e1 : w.cell? ⟨q, 2, none⟩ = some (.int .i64 e.h) := (hq.cell _).trans (by have := pgL_at XE.cells 3 XE.three es rest [nx, pv] 0 1 e _ he (by omega) rfl; exact this)
  clear hq he ht
  go_enter Tryz.func71, Tryz.ntmps71
  go_wp2
  go_region
  go_wp2
  go_ret2
  exact ⟨w.heap.size, rfl, heap_new w _, Nat.le_refl _, ((Below.refl _ _).alloc (Nat.le_refl _) _).drew⟩

set_option maxRecDepth 100000 in
set_option maxHeartbeats 1000000 in
theorem tree_last {q t j : Nat} {es : List XE} {rest : List Value} {nx pv : Value} {e : XE} {c : Int} {fi r : Value} {ver : Int} {w : World} (hq : PageAt w q es rest nx pv) (hj : es.length = j + 1) (he : es[j]? = some e) (ht : TreeW w t c fi (ptr q) r ver) :
    Calls Tryz.prog 72 #[.pointer (some ⟨t, 0, none⟩)] w (EnumP j e q t ver w) := by
  have hle := hq.le
  have c2 : w.cell? ⟨t, 2, none⟩ = some (.pointer (some ⟨q, 0, none⟩)) := cell_of_heap ht 2
  have c4 : w.cell? ⟨t, 4, none⟩ = some (.int .i64 ver) := cell_of_heap ht 4
  have cq : w.cell? ⟨q, 0, none⟩ = some (.int .i64 es.length) := by rw [hq.cell]; rfl
  have e0 : w.cell? ⟨q, 1 + j * 3, none⟩ = some (.slice e.A e.m e.p) := (hq.cell _).trans (pgL_at XE.cells 3 XE.three es rest [nx, pv] j 0 e _ he (by omega) rfl)
  have e1 : w.cell? ⟨q, 1 + j * 3 + 1, none⟩ = some (.int .i64 e.h) := (hq.cell _).trans (pgL_at XE.cells 3 XE.three es rest [nx, pv] j 1 e _ he (by omega) rfl)
  have hw1 : (es.length : Int) - 1 = (j : Int) := by omega
  have hw2 : IntKind.i64.wrap (j : Int) = (j : Int) := IntWalk.i64_in _ (by omega)
  have hj1 : (j : Int) < 129 := by omega
  have hj2 : (0 : Int) ≤ j := by omega
  clear hq he ht hj
  go_enter Tryz.func72, Tryz.ntmps72
  go_wp2
  go_region
  go_wp2
  go_ret2
  exact ⟨w.heap.size, rfl, heap_new w _, Nat.le_refl _, ((Below.refl _ _).alloc (Nat.le_refl _) _).drew⟩

/-- What an index hands out to go through it. -/
def IterP (Q : World → Nat → Prop) (w : World) (y : Ending) (w' : World) : Prop :=
  ∃ b, y = .returned (.tuple #[.iface 148 (.pointer (some ⟨b, 0, none⟩)), .nilIface]) ∧ Q w' b ∧ w.heap.size ≤ b ∧ Below w.heap.size w w'

set_option maxRecDepth 100000 in
set_option maxHeartbeats 1000000 in
theorem idx_first {x m t q : Nat} {uni : Bool} {e : XE} {ver : Int} {i : Int} {w : World} (hx : IdxW w x m t uni)
    (H : Hid (Calls Tryz.prog 71 #[.pointer (some ⟨t, 0, none⟩)] w (EnumP i e q t ver w))) :
    Calls Tryz.prog 44 #[.pointer (some ⟨x, 0, none⟩)] w (IterP (fun w' b => EnumAt w' b .nilIface true i (.slice e.A e.m e.p) e.h (ptr q) t ver uni) w) := by
  have c1 : w.cell? ⟨x, 1, none⟩ = some (.pointer (some ⟨t, 0, none⟩)) := cell_of_heap hx 1
  have HX := Lib.hid hx
  clear hx
  go_enter Tryz.func44, Tryz.ntmps44
  go_wp2_with (go_at_call 71; refine H.out.mono ?_; rintro y w1 ⟨N, rfl, hN, hlo, hb⟩; have d0 := cell_of_heap hN 0; have d1 := cell_of_heap hN 1; have d2 := cell_of_heap hN 2; have d3 := cell_of_heap hN 3; have d4 := cell_of_heap hN 4; have d5 := cell_of_heap hN 5; have d6 := cell_of_heap hN 6; have d7 := cell_of_heap hN 7; have du : w1.cell? ⟨x, 2, none⟩ = some (.bool uni) := cell_of_heap (heap_below HX.out hb) 2; have HB := Lib.hid hb; clear hb hN)
  go_region
  go_wp2
  go_ret2
  exact ⟨w1.heap.size, rfl, heap_new w1 _, HB.out.size, (HB.out.alloc HB.out.size _).drew⟩

set_option maxRecDepth 100000 in
set_option maxHeartbeats 1000000 in
theorem idx_last {x m t q : Nat} {uni : Bool} {e : XE} {ver : Int} {i : Int} {w : World} (hx : IdxW w x m t uni)
    (H : Hid (Calls Tryz.prog 72 #[.pointer (some ⟨t, 0, none⟩)] w (EnumP i e q t ver w))) :
    Calls Tryz.prog 46 #[.pointer (some ⟨x, 0, none⟩)] w (IterP (fun w' b => EnumAt w' b .nilIface true i (.slice e.A e.m e.p) e.h (ptr q) t ver uni) w) := by
  have c1 : w.cell? ⟨x, 1, none⟩ = some (.pointer (some ⟨t, 0, none⟩)) := cell_of_heap hx 1
  have HX := Lib.hid hx
  clear hx
  go_enter Tryz.func46, Tryz.ntmps46
  go_wp2_with (go_at_call 72; refine H.out.mono ?_; rintro y w1 ⟨N, rfl, hN, hlo, hb⟩; have d0 := cell_of_heap hN 0; have d1 := cell_of_heap hN 1; have d2 := cell_of_heap hN 2; have d3 := cell_of_heap hN 3; have d4 := cell_of_heap hN 4; have d5 := cell_of_heap hN 5; have d6 := cell_of_heap hN 6; have d7 := cell_of_heap hN 7; have du : w1.cell? ⟨x, 2, none⟩ = some (.bool uni) := cell_of_heap (heap_below HX.out hb) 2; have HB := Lib.hid hb; clear hb hN)
  go_region
  go_wp2
  go_ret2
  exact ⟨w1.heap.size, rfl, heap_new w1 _, HB.out.size, (HB.out.alloc HB.out.size _).drew⟩

set_option maxRecDepth 100000 in
set_option maxHeartbeats 1000000 in
theorem tree_first_none {t : Nat} {c ver : Int} {fi la r : Value} {E : Value} {w : World} (ht : TreeW w t c fi la r ver) (hn : fi = .pointer none) (hE : HasEof w E) :
    Calls Tryz.prog 71 #[.pointer (some ⟨t, 0, none⟩)] w fun y w' => y = .returned (.tuple #[.pointer none, E]) ∧ Below w.heap.size w w' := by
  subst hn
  have c1 : w.cell? ⟨t, 1, none⟩ = some (.pointer none) := cell_of_heap ht 1
  obtain ⟨gl, gc, a, rfl⟩ := hE
  clear ht
  go_enter Tryz.func71, Tryz.ntmps71
  go_wp2
  go_region
  go_wp2
  go_ret2
  exact ⟨rfl, (Below.refl _ _).drew⟩

set_option maxRecDepth 100000 in
set_option maxHeartbeats 1000000 in
theorem idx_first_none {x m t : Nat} {uni : Bool} {c ver : Int} {fi la r : Value} {E : Value} {w : World} (hx : IdxW w x m t uni) (ht : TreeW w t c fi la r ver) (hn : fi = .pointer none) (hE : HasEof w E) :
    Calls Tryz.prog 44 #[.pointer (some ⟨x, 0, none⟩)] w fun y w' => y = .returned (.tuple #[.nilIface, E]) ∧ Below w.heap.size w w' := by
  have c1 : w.cell? ⟨x, 1, none⟩ = some (.pointer (some ⟨t, 0, none⟩)) := cell_of_heap hx 1
  have H := Lib.hid (tree_first_none ht hn hE)
  obtain ⟨_, _, a, rfl⟩ := hE
  clear hx ht hn
  go_enter Tryz.func44, Tryz.ntmps44
  go_wp2_with (go_at_call 71; refine H.out.mono ?_; rintro y w1 ⟨rfl, hb⟩)
  go_ret2
  exact ⟨rfl, hb⟩

set_option maxRecDepth 100000 in
set_option maxHeartbeats 1000000 in
theorem tree_last_none {t : Nat} {c ver : Int} {fi la r : Value} {E : Value} {w : World} (ht : TreeW w t c fi la r ver) (hn : la = .pointer none) (hE : HasEof w E) :
    Calls Tryz.prog 72 #[.pointer (some ⟨t, 0, none⟩)] w fun y w' => y = .returned (.tuple #[.pointer none, E]) ∧ Below w.heap.size w w' := by
  subst hn
  have c1 : w.cell? ⟨t, 2, none⟩ = some (.pointer none) := cell_of_heap ht 2
  obtain ⟨gl, gc, a, rfl⟩ := hE
  clear ht
  go_enter Tryz.func72, Tryz.ntmps72
  go_wp2
  go_region
  go_wp2
  go_ret2
  exact ⟨rfl, (Below.refl _ _).drew⟩

set_option maxRecDepth 100000 in
set_option maxHeartbeats 1000000 in
theorem idx_last_none {x m t : Nat} {uni : Bool} {c ver : Int} {fi la r : Value} {E : Value} {w : World} (hx : IdxW w x m t uni) (ht : TreeW w t c fi la r ver) (hn : la = .pointer none) (hE : HasEof w E) :
    Calls Tryz.prog 46 #[.pointer (some ⟨x, 0, none⟩)] w fun y w' => y = .returned (.tuple #[.nilIface, E]) ∧ Below w.heap.size w w' := by
  have c1 : w.cell? ⟨x, 1, none⟩ = some (.pointer (some ⟨t, 0, none⟩)) := cell_of_heap hx 1
  have H := Lib.hid (tree_last_none ht hn hE)
  obtain ⟨_, _, a, rfl⟩ := hE
  clear hx ht hn
  go_enter Tryz.func46, Tryz.ntmps46
  go_wp2_with (go_at_call 72; refine H.out.mono ?_; rintro y w1 ⟨rfl, hb⟩)
  go_ret2
  exact ⟨rfl, hb⟩

theorem tree_pages {w : World} {t : Nat} {L : List XE} {S : Nat → Prop} (h : TreeAt w t L S) (hL : L ≠ []) :
    ∃ P c r ver, ents P = L ∧ P ≠ [] ∧ Chain w (.pointer none) P (.pointer none) ∧ (∀ p ∈ P, 1 ≤ p.2.length) ∧ TreeW w t c (hdp P (.pointer none)) (lastp (.pointer none) P) r ver ∧ (∀ p ∈ P, S p.1) ∧ S t := by
  cases h with
  | none h => exact absurd rfl hL
  | lone h =>
    rename_i b
    obtain ⟨⟨ver, ht⟩, ⟨rest, hq⟩, hs⟩ := h
    exact ⟨[(b, L)], _, _, ver, by simp [ents], by simp, ⟨⟨rest, hq⟩, trivial⟩, fun p hp => by simp at hp; subst hp; exact hs.1, ht, fun p hp => by simp at hp; subst hp; exact .inr rfl, .inl rfl⟩
  | many h =>
    rename_i x P
    obtain ⟨ver, ht⟩ := h.tree
    exact ⟨P, _, _, ver, rfl, by rintro rfl; have := h.two; simp at this, h.chain, fun p hp => by have := (h.sizes p hp).1; omega, ht, fun p hp => .inr (mem_blocks hp), .inl (.inl rfl)⟩
theorem tree_empty {w : World} {t : Nat} {S : Nat → Prop} (h : TreeAt w t [] S) : ∃ ver, TreeW w t 0 (.pointer none) (.pointer none) .nilIface ver ∧ S t := by
  generalize hL : ([] : List XE) = L at h
  cases h with
  | none h => obtain ⟨ver, h⟩ := h; exact ⟨ver, h, rfl⟩
  | lone h => subst hL; have := h.size.1; simp at this
  | many h =>
    have h1 := h.pages
    have h2 := h.two
    rw [← hL] at h1
    simp at h1
    omega

/-- At the first entry. -/
theorem first_at {w : World} {t : Nat} {P : List Pg} {E : Value} (hch : Chain w (.pointer none) P (.pointer none)) (hn : ∀ p ∈ P, 1 ≤ p.2.length) (hP : P ≠ []) {c : Int} {r : Value} {ver : Int} (ht : TreeW w t c (hdp P (.pointer none)) (lastp (.pointer none) P) r ver)
    {x m : Nat} {uni : Bool} (hx : IdxW w x m t uni) :
    Calls Tryz.prog 44 #[.pointer (some ⟨x, 0, none⟩)] w (IterP (fun w' b => AtN P w' b t ver uni E 0) w) := by
  cases P with
  | nil => exact absurd rfl hP
  | cons p P =>
    obtain ⟨q, es⟩ := p
    obtain ⟨⟨rest, hq⟩, _⟩ := hch
    have h1 : 1 ≤ es.length := hn (q, es) (by simp)
    obtain ⟨e, he⟩ : ∃ e, es[0]? = some e := ⟨es[0], List.getElem?_eq_getElem _⟩
    refine (idx_first (i := 0) (q := q) (e := e) hx (Lib.hid (tree_first hq he ht))).mono ?_
    rintro y w' ⟨b, rfl, h2, h3, h4⟩
    exact ⟨b, rfl, .at_ (A := []) (B := P) (q := q) (es := es) (i := 0) rfl h1 h2, h3, h4⟩

/-- At the last entry. -/
theorem last_at {w : World} {t : Nat} {P : List Pg} {E : Value} (hch : Chain w (.pointer none) P (.pointer none)) (hn : ∀ p ∈ P, 1 ≤ p.2.length) (hP : P ≠ []) {c : Int} {r : Value} {ver : Int} (ht : TreeW w t c (hdp P (.pointer none)) (lastp (.pointer none) P) r ver)
    {x m : Nat} {uni : Bool} (hx : IdxW w x m t uni) :
    Calls Tryz.prog 46 #[.pointer (some ⟨x, 0, none⟩)] w (IterP (fun w' b => AtP P w' b t ver uni E (ents P).length) w) := by
  rcases List.eq_nil_or_concat P with h | ⟨A, ⟨q, es⟩, h⟩
  · exact absurd h hP
  · have h' : P = A ++ [(q, es)] := by simpa using h
    subst h'
    obtain ⟨rest, hq⟩ := chain_at hch
    obtain ⟨j, hj⟩ : ∃ j, es.length = j + 1 := ⟨es.length - 1, by have : 1 ≤ es.length := hn (q, es) (by simp); omega⟩
    obtain ⟨e, he⟩ : ∃ e, es[j]? = some e := ⟨es[j], List.getElem?_eq_getElem _⟩
    have hl : lastp (.pointer none) (A ++ [(q, es)]) = ptr q := by rw [lastp_append]; rfl
    rw [hl] at ht
    refine (idx_last (i := j) (q := q) (e := e) hx (Lib.hid (tree_last hq hj he ht))).mono ?_
    rintro y w' ⟨b, rfl, h2, h3, h4⟩
    have e1 : (ents (A ++ [(q, es)])).length = (ents A).length + j + 1 := by rw [ents_append]; simp [ents]; omega
    refine ⟨b, rfl, ?_, h3, h4⟩
    show AtP _ w' b t ver uni E (ents (A ++ [(q, es)])).length
    rw [e1]
    exact .at_ (A := A) (B := []) (q := q) (es := es) (i := j) rfl (by omega) h2

end Go.Proofs.YtffgkocokkhahaaGreatDoor

/- Where a key stands: which page, and where in it. -/
namespace Go.Proofs.YtffgkocokkhahaaGreatDoor
open Go.RowKit

theorem Asks.below {w w' : World} {u : Value} {es : List XE} {cs : Nat → Int} (h : Asks w u es cs) (hb : Below w.heap.size w w') : Asks w' u es cs :=
  fun j e he => by
    obtain ⟨h0, h1, h2⟩ := h j e he
    exact ⟨h0, h1, fun w'' hb2 => h2 w'' (hb.trans (hb2.mono hb.size))⟩

/-- Of some entries within others. -/
theorem Asks.part {w : World} {u : Value} {L es : List XE} {cs : Nat → Int} {o : Nat → Nat} (h : Asks w u L cs) (ho : ∀ (j : Nat) (e : XE), es[j]? = some e → L[o j]? = some e) : Asks w u es (fun j => cs (o j)) :=
  fun j e he => h (o j) e (ho j e he)

/-- The page of a place. -/
theorem place : ∀ (P : List Pg) (g : Nat), P ≠ [] → g ≤ (ents P).length → ∃ A q es B i, P = A ++ (q, es) :: B ∧ g = (ents A).length + i ∧ i ≤ es.length ∧ (A ≠ [] → 1 ≤ i)
  | [], _, h, _ => absurd rfl h
  | (q, es) :: P, g, _, hg => by
    rcases Nat.lt_or_ge es.length g with h | h
    · cases P with
      | nil => simp [ents] at hg; omega
      | cons p P =>
        obtain ⟨A, q', es', B, i, h1, h2, h3, h4⟩ := place (p :: P) (g - es.length) (by simp) (by rw [ents_cons, List.length_append] at hg; simp only at hg; omega)
        refine ⟨(q, es) :: A, q', es', B, i, by rw [h1]; rfl, by rw [ents_cons, List.length_append]; show g = es.length + _ + i; omega, h3, fun _ => ?_⟩
        cases A with
        | nil => have : (ents ([] : List Pg)).length = 0 := rfl; omega
        | cons a A => exact h4 (by simp)
    · exact ⟨[], q, es, P, g, rfl, by simp [ents], h, fun h => absurd rfl h⟩

/-- The first entries. -/
def heads (r : List Pg) : List XE := r.filterMap (fun p => p.2.head?)
theorem heads_len : ∀ {r : List Pg}, (∀ p ∈ r, 1 ≤ p.2.length) → (heads r).length = r.length
  | [], _ => rfl
  | p :: r, h => by
    have h1 := h p (by simp)
    obtain ⟨e, he⟩ : ∃ e, p.2.head? = some e := by
      cases hp : p.2 with
      | nil => rw [hp] at h1; simp at h1
      | cons e l => exact ⟨e, rfl⟩
    have h2 := heads_len (r := r) (fun q hq => h q (by simp [hq]))
    unfold heads at h2 ⊢
    rw [List.filterMap_cons_some (f := fun p : Pg => p.2.head?) he, List.length_cons, h2, List.length_cons]
theorem heads_at : ∀ {r : List Pg} (_ : ∀ p ∈ r, 1 ≤ p.2.length) (t : Nat) (p : Pg), r[t]? = some p → ∃ e, (heads r)[t]? = some e ∧ p.2[0]? = some e ∧ (ents r)[(ents (r.take t)).length]? = some e
  | [], _, _, _, h => by simp at h
  | p :: r, h, 0, q, hq => by
    obtain rfl : p = q := by simpa using hq
    have h1 := h p (by simp)
    cases hp : p.2 with
    | nil => rw [hp] at h1; simp at h1
    | cons e l =>
      refine ⟨e, ?_, rfl, ?_⟩
      · unfold heads
        rw [List.filterMap_cons_some (f := fun p : Pg => p.2.head?) (b := e) (by rw [hp]; rfl)]
        rfl
      · simp [ents, hp]
  | p :: r, h, t + 1, q, hq => by
    have h1 := h p (by simp)
    obtain ⟨e, h2, h3, h4⟩ := heads_at (r := r) (fun q hq => h q (by simp [hq])) t q (by simpa using hq)
    obtain ⟨e0, he0⟩ : ∃ e, p.2.head? = some e := by
      cases hp : p.2 with
      | nil => rw [hp] at h1; simp at h1
      | cons e l => exact ⟨e, rfl⟩
    refine ⟨e, ?_, h3, ?_⟩
    · unfold heads at h2 ⊢
      rw [List.filterMap_cons_some (f := fun p : Pg => p.2.head?) he0]
      exact h2
    · rw [List.take_succ_cons, ents_cons, ents_cons, List.length_append, List.getElem?_append_right (by omega)]
      rw [show p.2.length + (ents (r.take t)).length - p.2.length = (ents (r.take t)).length by omega]
      exact h4

theorem ents_take_le {P : List Pg} {a b : Nat} (h : a ≤ b) : (ents (P.take a)).length ≤ (ents (P.take b)).length := by
  have : P.take a = (P.take b).take a := by rw [List.take_take, Nat.min_eq_left h]
  rw [this]
  conv => rhs; rw [← List.take_append_drop a (P.take b), ents_append, List.length_append]
  omega

/-- At the root: which page. -/
theorem root_pos {P A B : List Pg} {q : Nat} {es : List XE} {i g : Nat} {s : Nat → Int} (hP : P = A ++ (q, es) :: B) (hg : g = (ents A).length + i) (hi : i ≤ es.length) (hi1 : A ≠ [] → 1 ≤ i)
    (hn : ∀ p ∈ P, 1 ≤ p.2.length) (hs : Pos s (ents P).length g false) : Pos (fun t => s (ents (P.take (t + 1))).length) (heads P.tail).length A.length false := by
  have hl : (heads P.tail).length = A.length + B.length := by
    rw [heads_len (fun p hp => hn p (List.mem_of_mem_tail hp)), hP]
    simp
  have hoff : ∀ t, t < A.length → (ents (P.take (t + 1))).length < g := fun t ht => by
    have h1 : (ents (P.take (t + 1))).length ≤ (ents (P.take A.length)).length := ents_take_le (by omega)
    have h2 : P.take A.length = A := by rw [hP, List.take_left' rfl]
    rw [h2] at h1
    have := hi1 (by rintro rfl; simp at ht)
    omega
  have hbeh : ∀ t, A.length ≤ t → t < A.length + B.length → g ≤ (ents (P.take (t + 1))).length ∧ (ents (P.take (t + 1))).length < (ents P).length := fun t h1 h2 => by
    have h3 : (ents (P.take (A.length + 1))).length ≤ (ents (P.take (t + 1))).length := ents_take_le (by omega)
    have h4 : P.take (A.length + 1) = A ++ [(q, es)] := by
      rw [hP, show A ++ (q, es) :: B = (A ++ [(q, es)]) ++ B by simp]
      exact List.take_left' (by simp)
    rw [h4, ents_append] at h3
    refine ⟨by simp [ents] at h3 ⊢; simp [ents] at hg; omega, ?_⟩
    have hd : P.drop (t + 1) ≠ [] := by
      intro he
      have := congrArg List.length he
      rw [List.length_drop, hP] at this
      simp at this
      omega
    obtain ⟨p, r, hpr⟩ := List.exists_cons_of_ne_nil hd
    have hp1 := hn p (by have : p ∈ P.drop (t + 1) := by rw [hpr]; simp
                         exact List.mem_of_mem_drop this)
    conv => rhs; rw [← List.take_append_drop (t + 1) P, ents_append, List.length_append, hpr, ents_cons, List.length_append]
    omega
  have hneg : ∀ t, A.length ≤ t → t < A.length + B.length → s (ents (P.take (t + 1))).length < 0 := fun t h1 h2 => by
    obtain ⟨h3, h4⟩ := hbeh t h1 h2
    rcases Nat.eq_or_lt_of_le h3 with h5 | h5
    · have := hs.miss rfl (by omega)
      rw [h5] at this
      exact this
    · exact hs.behind _ h5 h4
  refine ⟨by rw [hl]; omega, fun t ht => hs.ahead _ (hoff t ht), fun t h1 h2 => hneg t (by omega) (by rw [hl] at h2; exact h2), fun h => (by cases h), fun _ h => hneg _ (Nat.le_refl _) (by rw [hl] at h; exact h)⟩

/-- In a page: where. -/
theorem page_pos {A B : List Pg} {q : Nat} {es : List XE} {i g : Nat} {s : Nat → Int} (hg : g = (ents A).length + i) (hi : i ≤ es.length) (hs : Pos s (ents (A ++ (q, es) :: B)).length g false) :
    Pos (fun r => s ((ents A).length + r)) es.length i false := by
  have hl : (ents (A ++ (q, es) :: B)).length = (ents A).length + (es.length + (ents B).length) := by rw [ents_append, ents_cons]; simp
  rw [hl] at hs
  refine ⟨hi, fun r hr => hs.ahead _ (by omega), fun r h1 h2 => hs.behind _ (by omega) (by omega), fun h => (by cases h), fun _ h => ?_⟩
  have := hs.miss rfl (by omega)
  rw [hg] at this
  exact this

theorem page_at {A B : List Pg} {q : Nat} {es : List XE} {r : Nat} {e : XE} (h : es[r]? = some e) : (ents (A ++ (q, es) :: B))[(ents A).length + r]? = some e := by
  have hr : r < es.length := (List.getElem?_eq_some_iff.1 h).1
  rw [ents_append, ents_cons, List.getElem?_append_right (by omega), show (ents A).length + r - (ents A).length = r by omega, List.getElem?_append_left hr]
  exact h

theorem head_at {P : List Pg} (hn : ∀ p ∈ P, 1 ≤ p.2.length) (t : Nat) (e : XE) (h : (heads P.tail)[t]? = some e) : (ents P)[(ents (P.take (t + 1))).length]? = some e := by
  cases P with
  | nil => simp [heads] at h
  | cons p P =>
    have hn2 : ∀ q ∈ P, 1 ≤ q.2.length := fun q hq => hn q (by simp [hq])
    have hlt : t < P.length := by rw [← heads_len hn2]; exact (List.getElem?_eq_some_iff.1 h).1
    obtain ⟨e', h1, _, h3⟩ := heads_at hn2 t P[t] (List.getElem?_eq_getElem hlt)
    obtain rfl : e = e' := Option.some.inj (h.symm.trans h1)
    rw [List.take_succ_cons, ents_cons, ents_cons, List.length_append, List.getElem?_append_right (by omega), show p.2.length + (ents (P.take t)).length - p.2.length = (ents (P.take t)).length by omega]
    exact h3

end Go.Proofs.YtffgkocokkhahaaGreatDoor

/- (*xtree).Set of a key that is not there. -/
namespace Go.Proofs.YtffgkocokkhahaaGreatDoor
open Go.RowKit

set_option maxRecDepth 100000 in
set_option maxHeartbeats 1000000 in
theorem set_none (t : Nat) (e : XE) (ver : Int) (w : World) (ht : TreeW w t 0 (.pointer none) (.pointer none) .nilIface ver) :
    Calls Tryz.prog 65 #[.pointer (some ⟨t, 0, none⟩), .agg #[.slice e.A e.m e.p, .int .i64 e.h], .int .i64 e.n] w (GrowP t [e] (fun k => k = t) w) := by
  have ct3 : w.cell? ⟨t, 3, none⟩ = some .nilIface := cell_of_heap ht 3
  have lt := lt_of_heap ht
  have htn : ¬ t = w.heap.size + 1 := by omega
  have HT := Lib.hid ht
  have HB := Lib.hid (below_al2 w (.cells #[.slice e.A e.m e.p, .int .i64 e.h] 136) (.cells Tryz.zeroCells175 175))
  have HP := Lib.hid (show PageAt ((w.alloc (.cells #[.slice e.A e.m e.p, .int .i64 e.h] 136)).alloc (.cells Tryz.zeroCells175 175)) (w.heap.size + 1) [] zroom (.pointer none) (.pointer none) from ⟨by
    have h := heap_new (w.alloc (.cells #[.slice e.A e.m e.p, .int .i64 e.h] 136)) (.cells Tryz.zeroCells175 175)
    have e1 : (w.alloc (.cells #[.slice e.A e.m e.p, .int .i64 e.h] 136)).heap.size = w.heap.size + 1 := by simp
    rw [e1] at h
    rw [h, zd_eq], by rw [zroom_len]; rfl, zroom_one⟩)
  clear ht
  go_enter Tryz.func65, Tryz.ntmps65
  go_wp2_with (go_at_call 85; refine (insert_any t (w.heap.size + 1) 0 [] zroom _ _ e 0 _ _ _ ver _ HP.out (heap_below HT.out HB.out) htn (Nat.le_refl _) (by simp) (by omega) (by omega)).mono ?_; rintro y w2 ⟨rfl, hp2, ⟨ver2, ht2⟩, hc2⟩; have dt1 := cell_of_heap ht2 1; have dt2 := cell_of_heap ht2 2; have dt3 := cell_of_heap ht2 3; have gt1 := free_of_heap ht2 1; have gt2 := free_of_heap ht2 2; have gt3 := free_of_heap ht2 3; have HP2 := Lib.hid hp2; have HT2 := Lib.hid ht2; clear hp2 ht2)
  go_end0
  have hcS : Chg (fun k => k = t) w w2 := (Chg.of_below HB.out).next hc2 (fun k hk h => by rcases h with h | h; exact h; omega)
  refine ⟨rfl, _, .lone (b := w.heap.size + 1) ⟨⟨ver2, ?_⟩, ⟨_, HP2.out.chg (Chg.setCell (Chg.setCell (Chg.setCell (Chg.refl (fun k => k = t) w2) (p := ⟨t, _, none⟩) (.inl rfl) _) (p := ⟨t, _, none⟩) (.inl rfl) _) (p := ⟨t, _, none⟩) (.inl rfl) _) (fun h => htn h.symm)⟩, by simp⟩, Chg.setCell (Chg.setCell (Chg.setCell hcS (p := ⟨t, _, none⟩) (.inl rfl) _) (p := ⟨t, _, none⟩) (.inl rfl) _) (p := ⟨t, _, none⟩) (.inl rfl) _, fun k hk => ?_⟩
  · unfold TreeW
    rw [heap_setCell_at, heap_setCell_at, heap_setCell_at, show w2.heap[t]? = _ from HT2.out]
    rfl
  · rcases hk with h | h
    · exact .inl h
    · exact .inr (by omega)

/-- What a search in a page has found: behind it the page is as it was. -/
theorem set_lone (t b i : Nat) (es : List XE) (e : XE) (cs : Nat → Int) (s : Nat → Int) (w : World) (h : Lone w t b es es.length) (h0 : 0 ≤ e.h) (h1 : e.h ≤ 9223372036854775807)
    (ha : Asks w (.slice e.A e.m e.p) es cs) (hsd : ∀ (j : Nat) (e' : XE), es[j]? = some e' → s j = keyC (cs j) e.h e'.h) (hp : Pos s es.length i false) :
    Calls Tryz.prog 65 #[.pointer (some ⟨t, 0, none⟩), .agg #[.slice e.A e.m e.p, .int .i64 e.h], .int .i64 e.n] w (GrowP t (es.take i ++ e :: es.drop i) (fun k => k = t ∨ k = b) w) := by
  have hne := h.ne
  have hle := h.size
  have HW := Lib.hid h
  obtain ⟨⟨ver, ht⟩, ⟨rest, hq⟩, _⟩ := h
  have ct3 : w.cell? ⟨t, 3, none⟩ = some (.iface 149 (.pointer (some ⟨b, 0, none⟩))) := cell_of_heap ht 3
  have lt := lt_of_heap ht
  have lb := hq.lt
  have cb0 : w.cell? ⟨b, 0, none⟩ = some (.int .i64 es.length) := by rw [hq.cell]; rfl
  have HF := Lib.hid (fun w' (hb : Below w.heap.size w w') => find_leaf t b es rest _ _ e.A e.m e.p e.h cs i false w' (hq.below hb) h0 h1 (ha.below hb) s hsd hp)
  have hi : i ≤ es.length := hp.le
  have HQ := Lib.hid hq
  have HT := Lib.hid ht
  have hcnt : ((es.take i ++ e :: es.drop i).length : Int) = es.length + 1 := by simp [List.length_take]; omega
  have HN := Lib.hid hcnt
  have HB0 := Lib.hid (show Below w.heap.size w (w.alloc (.cells #[.slice e.A e.m e.p, .int .i64 e.h] 136)) from (Below.refl _ _).alloc (Nat.le_refl _) _)
  clear hq ht ha hsd hp hcnt
  rcases Nat.lt_or_ge es.length 128 with hr | hr
  · have hrc : ((es.length : Int) < 128) = True := by simp; omega
    go_enter Tryz.func65, Tryz.ntmps65
    go_wp2_with fail
    refine wp_loop_rounds 1 ?_
    rw [rounds_succ]
    go_wp2_with (first
      | (go_at_call 83; refine (HF.out _ HB0.out).mono ?_; rintro y w1 ⟨rfl, hb1⟩; obtain ⟨hc1, hf1⟩ := bcell hb1; have hz1 : w.heap.size < w1.heap.size := (by have := hb1.size; (try simp at this); omega); have db0 := (hc1 b 0 (by simp; omega)).trans ((HB0.out.cell (p := ⟨b, 0, none⟩) lb).trans cb0); have lb1 : b < w1.heap.size := (by omega); have HB1 := Lib.hid ((up_below' HB0.out hb1).alloc (by omega) (.cells #[.int .i64 i] 3)))
      | (go_at_call 85; refine (insert_any t b i es rest _ _ e _ _ _ _ ver _ (HQ.out.below HB1.out) (heap_below HT.out HB1.out) hne hi (by omega) (by omega) (by omega)).mono ?_; rintro y w2 ⟨rfl, hp2, ht2, hc2⟩))
    first | go_end0 | refine bodyPost_ret (results_none rfl _ _ _) rfl ?_
    refine ⟨rfl, _, .lone (b := b) ⟨?_, ⟨_, hp2⟩, by simp [List.length_take]; omega⟩, (Chg.of_below HB1.out).next hc2 (fun k _ h => h), fun k hk => .inl hk⟩
    rw [HN.out]
    exact ht2
  · have hr2 : es.length = 128 := by omega
    have hrc : ((es.length : Int) < 128) = False := by simp; omega
    have HO := Lib.hid (fun w' (hb : Below w.heap.size w w') => over_lone t b i es e w' ⟨⟨ver, heap_below HT.out hb⟩, ⟨rest, HQ.out.below hb⟩, hle⟩ hr2 (by omega))
    go_enter Tryz.func65, Tryz.ntmps65
    go_wp2_with fail
    refine wp_loop_rounds 1 ?_
    rw [rounds_succ]
    go_wp2_with (first
      | (go_at_call 83; refine (HF.out _ HB0.out).mono ?_; rintro y w1 ⟨rfl, hb1⟩; obtain ⟨hc1, hf1⟩ := bcell hb1; have hz1 : w.heap.size < w1.heap.size := (by have := hb1.size; (try simp at this); omega); have db0 := (hc1 b 0 (by simp; omega)).trans ((HB0.out.cell (p := ⟨b, 0, none⟩) lb).trans cb0); have lb1 : b < w1.heap.size := (by omega); have HB1 := Lib.hid ((up_below' HB0.out hb1).alloc (by omega) (.cells #[.int .i64 i] 3)))
      | (go_at_call 86; refine (HO.out _ HB1.out).mono ?_; rintro y w2 ⟨rfl, S', hat, hc2, hS⟩))
    first | go_end0 | refine bodyPost_ret (results_none rfl _ _ _) rfl ?_
    refine ⟨rfl, _, hat, (Chg.of_below HB1.out).next hc2 (fun k _ h => h), fun k hk => ?_⟩
    rcases hS k hk with h | h
    · exact .inl h
    · exact .inr (Nat.le_trans HB1.out.size h)

end Go.Proofs.YtffgkocokkhahaaGreatDoor

/- (*xtree).Set of a key that is not there, under a root. -/
namespace Go.Proofs.YtffgkocokkhahaaGreatDoor
open Go.RowKit

theorem put_at {A B : List Pg} {q : Nat} {es : List XE} {i g : Nat} {e : XE} (hg : g = (ents A).length + i) (hi : i ≤ es.length) :
    (ents (A ++ (q, es) :: B)).take g ++ e :: (ents (A ++ (q, es) :: B)).drop g = ents A ++ (es.take i ++ e :: es.drop i) ++ ents B := by
  subst hg
  rw [ents_append, ents_cons, List.take_append, List.drop_append, List.take_of_length_le (l := ents A) (by omega), List.drop_of_length_le (l := ents A) (by omega),
    show (ents A).length + i - (ents A).length = i by omega, List.take_append_of_le_length hi, List.drop_append_of_le_length hi]
  simp

/-- What find asks of the root. -/
theorem root_heads {w : World} {t x b0 : Nat} {bs : List Nat} {P : List Pg} {c : Int} (h : Rooted w t x P c) (hb : Blocks P = b0 :: bs) (hn : ∀ p ∈ P, 1 ≤ p.2.length) :
    (heads P.tail).length = bs.length ∧ ∀ (j b : Nat), bs[j]? = some b → ∃ fs re nx pv e, PageAt w b fs re nx pv ∧ fs[0]? = some e ∧ (heads P.tail)[j]? = some e := by
  have hch := h.chain
  cases P with
  | nil => simp [Blocks] at hb
  | cons p P =>
    have hbs : bs = Blocks P := by simp [Blocks] at hb ⊢; exact hb.2.symm
    subst hbs
    have hn2 : ∀ q ∈ P, 1 ≤ q.2.length := fun q hq => hn q (by simp [hq])
    refine ⟨by rw [List.tail_cons, heads_len hn2]; simp [Blocks], fun j b hjb => ?_⟩
    obtain ⟨q, hq, rfl⟩ : ∃ q, P[j]? = some q ∧ q.1 = b := by
      unfold Blocks at hjb
      rw [List.getElem?_map] at hjb
      obtain ⟨q, h1, h2⟩ := Option.map_eq_some_iff.1 hjb
      exact ⟨q, h1, h2⟩
    obtain ⟨e, h1, h2, _⟩ := heads_at hn2 j q hq
    obtain ⟨re, nx, pv, hp⟩ := chain_page hch q (by simp; exact .inr (List.mem_of_getElem? hq))
    exact ⟨q.2, re, nx, pv, e, hp, h2, h1⟩

theorem Rooted.below {w w' : World} {t x : Nat} {P : List Pg} {c : Int} (h : Rooted w t x P c) (hb : Below w.heap.size w w') : Rooted w' t x P c := by
  obtain ⟨⟨ver, h1⟩, ⟨b0, bs, xr, h2, h3⟩, h4, h5, h6, h7⟩ := h
  exact ⟨⟨ver, heap_below h1 hb⟩, ⟨b0, bs, xr, h2, h3.below hb⟩, chain_chg h4 (Chg.of_below (S := fun _ => False) hb) (fun _ _ h => h), h5, h6, h7⟩

set_option maxRecDepth 100000 in
set_option maxHeartbeats 1000000 in
theorem set_many (t x q i g : Nat) (A B : List Pg) (es : List XE) (e : XE) (cs : Nat → Int) (s : Nat → Int) (w : World) (h : Rooted w t x (A ++ (q, es) :: B) (ents (A ++ (q, es) :: B)).length) (hlen : (A ++ (q, es) :: B).length ≤ 200)
    (hg : g = (ents A).length + i) (hi : i ≤ es.length) (hi1 : A ≠ [] → 1 ≤ i) (h0 : 0 ≤ e.h) (h1 : e.h ≤ 9223372036854775807)
    (ha : Asks w (.slice e.A e.m e.p) (ents (A ++ (q, es) :: B)) cs) (hsd : ∀ (j : Nat) (e' : XE), (ents (A ++ (q, es) :: B))[j]? = some e' → s j = keyC (cs j) e.h e'.h) (hp : Pos s (ents (A ++ (q, es) :: B)).length g false) :
    Calls Tryz.prog 65 #[.pointer (some ⟨t, 0, none⟩), .agg #[.slice e.A e.m e.p, .int .i64 e.h], .int .i64 e.n] w
      (GrowP t (ents A ++ (es.take i ++ e :: es.drop i) ++ ents B) (fun k => (k = t ∨ k = x) ∨ k ∈ Blocks (A ++ (q, es) :: B)) w) := by
  have hn : ∀ p ∈ A ++ (q, es) :: B, 1 ≤ p.2.length := fun p hp => by have := (h.sizes p hp).1; omega
  obtain ⟨hxt, hne⟩ := h.ne
  obtain ⟨ver, ht⟩ := h.tree
  obtain ⟨b0, bs, xr, hbl, hx⟩ := h.root
  have hch := h.chain
  rw [chain_append] at hch
  obtain ⟨_, ⟨sq, hq⟩, _⟩ := hch
  have hlb : bs.length + 1 = A.length + (B.length + 1) := by
    have := congrArg List.length hbl
    simp [Blocks] at this
    omega
  have hsz : es.length ≤ 128 := (h.sizes (q, es) (by simp)).2
  have hbq : (b0 :: bs)[A.length]? = some q := by rw [← hbl, blocks_append, blocks_cons, List.getElem?_append_right (by simp [Blocks]), show A.length - (Blocks A).length = 0 by simp [Blocks]]; rfl
  have hcx : w.cell? ⟨x, 1 + A.length * 2, none⟩ = some (.iface 149 (.pointer (some ⟨q, 0, none⟩))) := hx.ch hbq
  have cx0 : w.cell? ⟨x, 0, none⟩ = some (.int .i64 bs.length) := by rw [hx.cell]; rfl
  have cq0 : w.cell? ⟨q, 0, none⟩ = some (.int .i64 es.length) := by rw [hq.cell]; rfl
  have ct3 : w.cell? ⟨t, 3, none⟩ = some (.iface 169 (.pointer (some ⟨x, 0, none⟩))) := cell_of_heap ht 3
  have lt := lt_of_heap ht
  have lx := hx.lt
  have lq := hq.lt
  simp only [List.length_append, List.length_cons] at hlen
  have HFX := Lib.hid (fun w' (hb : Below w.heap.size w w') => find_root t x b0 bs (heads (A ++ (q, es) :: B).tail) xr e.A e.m e.p e.h (fun j => cs (ents ((A ++ (q, es) :: B).take (j + 1))).length) A.length false w' (hx.below hb)
    (root_heads (h.below hb) hbl hn).2 (root_heads h hbl hn).1 (by omega) h0 h1 ((ha.part (fun j e' he => head_at hn j e' he)).below hb) (fun j => s (ents ((A ++ (q, es) :: B).take (j + 1))).length) (fun j e' he => hsd _ e' (head_at hn j e' he)) (root_pos rfl hg hi hi1 hn hp))
  have HFL := Lib.hid (fun w' (hb : Below w.heap.size w w') => find_leaf t q es sq _ _ e.A e.m e.p e.h (fun r => cs ((ents A).length + r)) i false w' (hq.below hb) h0 h1 ((ha.part (fun r e' he => page_at he)).below hb) (fun r => s ((ents A).length + r)) (fun r e' he => hsd _ e' (page_at he)) (page_pos hg hi hp))
  have HW := Lib.hid h
  have HQ := Lib.hid hq
  have HT := Lib.hid ht
  have HB0 := Lib.hid (show Below w.heap.size w (w.alloc (.cells #[.slice e.A e.m e.p, .int .i64 e.h] 136)) from (Below.refl _ _).alloc (Nat.le_refl _) _)
  obtain ⟨k, hk⟩ : ∃ k, k = A.length := ⟨_, rfl⟩
  rw [← hk] at hcx HFX
  have hk1 : (k : Int) < 258 := by omega
  have hk2 : (0 : Int) ≤ k := by omega
  have hbc : (256 < (bs.length : Int)) = False := by simp; omega
  have HK := Lib.hid hk
  clear h hq ht ha hsd hp hx hne hn hbl hbq hk
  go_enter Tryz.func65, Tryz.ntmps65
  go_wp2_with fail
  refine wp_loop_rounds 2 ?_
  rw [rounds_succ]
  go_wp2_with (go_at_call 83; refine (HFX.out _ HB0.out).mono ?_; rintro y w1 ⟨rfl, hb1⟩; obtain ⟨hc1, hf1⟩ := bcell hb1; have hz1 : w.heap.size < w1.heap.size := (by have := hb1.size; (try simp at this); omega); have dx0 := (hc1 x 0 (by simp; omega)).trans ((HB0.out.cell (p := ⟨x, 0, none⟩) lx).trans cx0); have dxk := (hc1 x (1 + k * 2) (by simp; omega)).trans ((HB0.out.cell (p := ⟨x, 1 + k * 2, none⟩) lx).trans hcx); have dq0 := (hc1 q 0 (by simp; omega)).trans ((HB0.out.cell (p := ⟨q, 0, none⟩) lq).trans cq0); have lx1 : x < w1.heap.size := (by omega); have lq1 : q < w1.heap.size := (by omega); have db0 := (hc1 w.heap.size 0 (by simp)).trans (cell_of_heap (heap_new w (.cells #[.slice e.A e.m e.p, .int .i64 e.h] 136)) 0); have db1 := (hc1 w.heap.size 1 (by simp)).trans (cell_of_heap (heap_new w (.cells #[.slice e.A e.m e.p, .int .i64 e.h] 136)) 1); have HB1 := Lib.hid (up_below' HB0.out hb1))
  obtain ⟨wa, hwa⟩ : ∃ wa, wa = (w1.alloc (.cells #[.int .i64 k] 3)).alloc (.cells #[.pointer (some ⟨x, 0, none⟩)] 169) := ⟨_, rfl⟩
  rw [← hwa]
  have hba : Below w1.heap.size w1 wa := by rw [hwa]; exact ((Below.refl _ _).alloc (Nat.le_refl _) _).alloc (by simp) _
  have ci : wa.cell? ⟨w1.heap.size, 0, none⟩ = some (.int .i64 k) := by rw [hwa]; exact cell_of_heap (heap_old (heap_new w1 _) _) 0
  have cx : wa.cell? ⟨w1.heap.size + 1, 0, none⟩ = some (.pointer (some ⟨x, 0, none⟩)) := by
    have h := heap_new (w1.alloc (.cells #[.int .i64 k] 3)) (.cells #[.pointer (some ⟨x, 0, none⟩)] 169)
    have e1 : (w1.alloc (.cells #[.int .i64 k] 3)).heap.size = w1.heap.size + 1 := by simp
    rw [e1, ← hwa] at h
    exact cell_of_heap h 0
  have HBA := Lib.hid (up_below' HB1.out hba)
  have hza : w1.heap.size < wa.heap.size := by rw [hwa]; show _ < ((w1.alloc _).alloc _).heap.size; simp; omega
  replace dxk := (hba.cell (p := ⟨x, 1 + k * 2, none⟩) lx1).trans dxk
  replace dq0 := (hba.cell (p := ⟨q, 0, none⟩) lq1).trans dq0
  replace db0 := (hba.cell (p := ⟨w.heap.size, 0, none⟩) hz1).trans db0
  replace db1 := (hba.cell (p := ⟨w.heap.size, 1, none⟩) hz1).trans db1
  have lq2 : q < wa.heap.size := by omega
  have lb2 : w.heap.size < wa.heap.size := by omega
  clear hwa hba dx0 hc1 hf1 hb1 hbc hcx cx0 cq0 ct3
  go_still_tail 7, (by kernel_rfl)
  obtain ⟨w2, hw2⟩ : ∃ w2, w2 = wa.drew := ⟨_, rfl⟩
  change wpList _ _ _ _ _ wa.drew
  rw [← hw2]
  have HB2 := Lib.hid (show Below w.heap.size w w2 by rw [hw2]; exact HBA.out.drew)
  replace dq0 : w2.cell? ⟨q, 0, none⟩ = some (.int .i64 es.length) := by rw [hw2]; exact dq0
  replace db0 : w2.cell? ⟨w.heap.size, 0, none⟩ = some (.slice e.A e.m e.p) := by rw [hw2]; exact db0
  replace db1 : w2.cell? ⟨w.heap.size, 1, none⟩ = some (.int .i64 e.h) := by rw [hw2]; exact db1
  replace lq2 : q < w2.heap.size := by rw [hw2]; exact lq2
  replace lb2 : w.heap.size < w2.heap.size := by rw [hw2]; exact lb2
  clear hw2 dxk ci cx
  go_wp2_with fail
  rw [rounds_succ]
  rcases Nat.lt_or_ge es.length 128 with hr | hr
  · have hrc : ((es.length : Int) < 128) = True := by simp; omega
    have htq := (HW.out.ne.2 (q, es) (by simp)).2
    have hcnt : (ents (A ++ (q, es) :: B)).length ≤ 25600 := by have := ents_le HW.out.sizes; simp at this; simp; omega
    go_wp2_with (first
      | (go_at_call 83; refine (HFL.out _ HB2.out).mono ?_; rintro y w3 ⟨rfl, hb3⟩; have eq0 := (hb3.cell (p := ⟨q, 0, none⟩) lq2).trans dq0; have eb0 := (hb3.cell (p := ⟨w.heap.size, 0, none⟩) lb2).trans db0; have eb1 := (hb3.cell (p := ⟨w.heap.size, 1, none⟩) lb2).trans db1; have lq3 : q < w3.heap.size := (by have := hb3.size; omega); have lb3 : w.heap.size < w3.heap.size := (by have := hb3.size; omega); have HB3 := Lib.hid ((up_below' HB2.out hb3).alloc (by omega) (.cells #[.int .i64 i] 3)))
      | (go_at_call 85; refine (insert_any t q i es sq _ _ e _ _ _ _ ver _ (HQ.out.below HB3.out) (heap_below HT.out HB3.out) (fun h => htq h.symm) hi (by omega) (by omega) (by omega)).mono ?_; rintro y w4 ⟨rfl, hp4, ht4, hc4⟩))
    first | go_end0 | refine bodyPost_ret (results_none rfl _ _ _) rfl ?_
    have hE : ents (A ++ (q, es.take i ++ e :: es.drop i) :: B) = ents A ++ (es.take i ++ e :: es.drop i) ++ ents B := by simp [ents]
    have hB' : Blocks (A ++ (q, es.take i ++ e :: es.drop i) :: B) = Blocks (A ++ (q, es) :: B) := by simp [Blocks]
    have hcS : Chg (fun k => k = t ∨ k = q) w w4 := (Chg.of_below HB3.out).next hc4 (fun k _ h => h)
    obtain ⟨nA, nB, _⟩ := nodup_mid HW.out.nodup
    have hne := HW.out.ne
    refine grow_many (P := A ++ (q, es.take i ++ e :: es.drop i) :: B) (x := x) ?_ hE (hcS.mono (fun k _ hk => ?_)) (fun k hk => .inl (by rw [hB'] at hk; exact hk))
    · refine HW.out.re hB' ?_ (chain_one HW.out.chain hcS (fun p hp => ?_) (fun p hp => ?_) ⟨_, hp4⟩) (fun p hp => ?_) hcS (by rintro (g | g); exact hne.1 g; exact (hne.2 (q, es) (by simp)).1 g.symm)
      · have : ((ents (A ++ (q, es.take i ++ e :: es.drop i) :: B)).length : Int) = (ents (A ++ (q, es) :: B)).length + 1 := by
          rw [hE, ents_append, ents_cons]
          simp [List.length_take]
          omega
        rw [this]
        exact ht4
      · rintro (g | g)
        · exact (hne.2 p (by simp [hp])).2 g
        · exact nA p hp g
      · rintro (g | g)
        · exact (hne.2 p (by simp [hp])).2 g
        · exact nB p hp g
      · rcases List.mem_append.1 hp with hp | hp
        · exact HW.out.sizes p (by simp [hp])
        · rcases List.mem_cons.1 hp with rfl | hp
          · have := (HW.out.sizes (q, es) (by simp)).1
            simp at this
            simp [List.length_take]
            omega
          · exact HW.out.sizes p (by simp [hp])
    · rcases hk with g | g
      · exact .inl (.inl g)
      · exact .inr (by rw [g]; simp [Blocks])
  · have hr2 : es.length = 128 := by omega
    have hrc : ((es.length : Int) < 128) = False := by simp; omega
    have HO := Lib.hid (fun w' (hb : Below w.heap.size w w') => over_root t x q i A B es e w' (HW.out.below hb) hr2 (by omega) hi1 (by simp; omega))
    rw [← HK.out] at HO
    go_wp2_with (first
      | (go_at_call 83; refine (HFL.out _ HB2.out).mono ?_; rintro y w3 ⟨rfl, hb3⟩; have eq0 := (hb3.cell (p := ⟨q, 0, none⟩) lq2).trans dq0; have eb0 := (hb3.cell (p := ⟨w.heap.size, 0, none⟩) lb2).trans db0; have eb1 := (hb3.cell (p := ⟨w.heap.size, 1, none⟩) lb2).trans db1; have lq3 : q < w3.heap.size := (by have := hb3.size; omega); have lb3 : w.heap.size < w3.heap.size := (by have := hb3.size; omega); have HB3 := Lib.hid ((up_below' HB2.out hb3).alloc (by omega) (.cells #[.int .i64 i] 3)))
      | (go_at_call 86; refine (HO.out _ HB3.out).mono ?_; rintro y w4 ⟨rfl, S', hat, hc4, hS⟩))
    first | go_end0 | refine bodyPost_ret (results_none rfl _ _ _) rfl ?_
    refine ⟨rfl, _, hat, (Chg.of_below HB3.out).next hc4 (fun k _ h => h), fun k hk => ?_⟩
    rcases hS k hk with h | h
    · exact .inl h
    · exact .inr (Nat.le_trans HB3.out.size h)

/-- Set of a key that is not there. -/
theorem set_any (t : Nat) (L : List XE) (S : Nat → Prop) (e : XE) (g : Nat) (cs : Nat → Int) (s : Nat → Int) (w : World) (h : TreeAt w t L S) (hlen : L.length ≤ 12800) (h0 : 0 ≤ e.h) (h1 : e.h ≤ 9223372036854775807)
    (ha : Asks w (.slice e.A e.m e.p) L cs) (hsd : ∀ (j : Nat) (e' : XE), L[j]? = some e' → s j = keyC (cs j) e.h e'.h) (hp : Pos s L.length g false) :
    Calls Tryz.prog 65 #[.pointer (some ⟨t, 0, none⟩), .agg #[.slice e.A e.m e.p, .int .i64 e.h], .int .i64 e.n] w (GrowP t (L.take g ++ e :: L.drop g) S w) := by
  cases h with
  | none h =>
    obtain ⟨ver, h⟩ := h
    have := set_none t e ver w h
    simpa using this
  | lone h => exact set_lone t _ g L e cs s w h h0 h1 ha hsd hp
  | many h =>
    rename_i x P
    have hP : P ≠ [] := by rintro rfl; have := h.two; simp at this
    obtain ⟨A, q, es, B, i, rfl, hg, hi, hi1⟩ := place P g hP hp.le
    have hl := h.pages
    rw [put_at hg hi]
    exact set_many t x q i g A B es e cs s w h (by omega) hg hi hi1 h0 h1 ha hsd hp

end Go.Proofs.YtffgkocokkhahaaGreatDoor

/- (*mem).newUndo: what can be taken back is kept. -/
namespace Go.Proofs.YtffgkocokkhahaaGreatDoor
open Go.RowKit

theorem info_undo : (Tryz.prog.info? 163).map (fun i => (i.zero, i.size, i.bytes)) = some (some (.agg #[.int .i64 0, .int .i64 0, .slice none 0 0]), 3, 40) := by kernel_rfl

/-- A memory store in a transaction, and the blocks that it turns. -/
structure StoreAt (w : World) (m : Nat) (n : Nat) (r : Nat) (L : Value) : Prop where
  mem : ∃ cs, w.heap[m]? = some (.cells cs 125 (0, 0)) ∧ cs[4]? = some (ptr r)
  roll : ∃ p s, w.heap[r]? = some (.cells #[L, p, s] 132 (0, 0))
  own : ∃ xs, w.ownsRow 0 163 3 L n xs

def UndoP (m n : Nat) (r : Nat) (L : Value) (w : World) (y : Ending) (w' : World) : Prop :=
  y = .returned (.tuple #[]) ∧ ∃ L', StoreAt w' m n r L' ∧ Chg (fun b => b = r ∨ L.ownBlock = some b) w w' ∧ (∀ b, L'.ownBlock = some b → L.ownBlock = some b ∨ w.heap.size ≤ b)

theorem own_ne {w : World} {b : Nat} {cs : Array Value} {t e : TypeId} {fr : Nat × Nat} {base size n : Nat} {v : Value} {xs : List Value} (h : w.ownsRow base e size v n xs) (hb : w.heap[b]? = some (.cells cs t fr)) (hne : e ≠ t) : v.ownBlock ≠ some b := by
  rcases h.2 with ⟨rfl, _⟩ | ⟨g, cap, cur, rfl, _, hh, _⟩
  · simp [Value.ownBlock]
  · intro he
    have : g = b := by simpa [Value.ownBlock] using he
    subst this
    rw [hb] at hh
    injection hh with hh
    injection hh with _ ht
    exact hne ht.symm

set_option maxRecDepth 100000 in
set_option maxHeartbeats 3200000 in
theorem undo_any (m n r : Nat) (L : Value) (w : World) (h : StoreAt w m n r L) (hn : n ≤ 100000) (tag hh : Int) (A : Option Addr) (c d : Nat) :
    Calls Tryz.prog 64 #[.pointer (some ⟨m, 0, none⟩), .int .i64 tag, .int .i64 hh, .slice A c d] w (UndoP m (n + 1) r L w) := by
  obtain ⟨⟨cs, hm, h4⟩, ⟨p, s, hr⟩, ⟨xs, hown⟩⟩ := h
  obtain ⟨i0, hi0, hz0, hz1, hz2⟩ := info_parts info_undo
  have c4 : w.cell? ⟨m, 4, none⟩ = some (.pointer (some ⟨r, 0, none⟩)) := (cell_of_heap hm 4).trans h4
  have c0 : w.cell? ⟨r, 0, none⟩ = some L := cell_of_heap hr 0
  have f0 : w.frozen? ⟨r, 0, none⟩ = false := free_of_heap hr 0
  have lm := lt_of_heap hm
  have lr := lt_of_heap hr
  have am : L.ownBlock ≠ some m := own_ne hown hm (by decide)
  have ar : L.ownBlock ≠ some r := own_ne hown hr (by decide)
  have hmr : m ≠ r := by rintro rfl; rw [hm] at hr; injection hr with hr; injection hr with _ ht; exact absurd ht (by decide)
  have HM := Lib.hid hm
  have HR := Lib.hid hr
  clear hm hr
  go_enter Tryz.func64, Tryz.ntmps64
  go_wp2_with fail
  go_region_law
    ((refine step_append_lies _ (by rfl) _ _ _ (by rfl) 0 163 i0 _ 3 40 Tryz.underlying130 hi0 hz0 hz1 hz2 rfl (by omega) L n xs (by rfl) ((hown.alloc _).drew)
        ⟨w.heap.size, 0, none⟩ 1 1 [.int .i64 tag, .int .i64 hh, .slice A c d] (by rfl) (by rfl) (World.news_of_block (cs := #[.int .i64 tag, .int .i64 hh, .slice A c d]) (t := 163) (fr := (0, 0)) (heap_alloc_new w _)) (by simp [Value.oneCell'])
        (by omega) (by simp only [maxLen]; omega) (by omega) (Nat.zero_le _) (w.heap.size + 1) (by simp) ?_; intro gg cap w1 hown1 hgrow hat hlt; have HR1 : Hid (w1.heap[r]? = some (.cells #[L, p, s] 132 (0, 0))) := Lib.hid ((hgrow.block r (by simp; omega) (Ne.symm ar)).trans ((heap_alloc_ne w r _ lr).trans HR.out)); have f1 : w1.frozen? ⟨r, 0, none⟩ = false := free_of_heap HR1.out 0; have d1 : w1.cell? ⟨r, 0, none⟩ = some L := cell_of_heap HR1.out 0; have HM1 : Hid (w1.heap[m]? = some (.cells cs 125 (0, 0))) := Lib.hid ((hgrow.block m (by simp; omega) (Ne.symm am)).trans ((heap_alloc_ne w m _ lm).trans HM.out)); have d4 : w1.cell? ⟨m, 4, none⟩ = some (.pointer (some ⟨r, 0, none⟩)) := (cell_of_heap HM1.out 4).trans h4))
  all_goals
    go_wp2
    first | go_end0 | refine bodyPost_ret (results_none rfl _ _ _) rfl ?_
    have hgr : gg ≠ r := by
      have := own_ne hown1 HR1.out (by decide)
      simpa [Value.ownBlock] using this
    refine ⟨rfl, .slice (some ⟨gg, 0, none⟩) (n + 1) cap, ⟨⟨cs, heap_set_ne HM1.out _ _ hmr, h4⟩, ⟨p, s, heap_set HR1.out 0 _⟩, ⟨_, ownsRow_setCell_other hown1 (by simp [Value.ownBlock]; exact hgr) _⟩⟩, ?_, ?_⟩
    · refine ⟨hgrow.os, hgrow.tape, hgrow.output, by have := hgrow.size; simp at this ⊢; omega, fun k hk hS => ?_⟩
      rw [Below.heap_setCell _ _ _ k (fun h => hS (.inl h))]
      exact (hgrow.block k (by simp; omega) (fun h => hS (.inr h.symm))).trans (heap_alloc_ne w k _ hk)
    · intro b hb
      have : gg = b := by simpa [Value.ownBlock] using hb
      subst this
      rcases hat with h | h
      · exact .inl h
      · exact .inr (by omega)

end Go.Proofs.YtffgkocokkhahaaGreatDoor

/- A new index of a new memory store: BeginTransaction, clone of nothing, Create of the first row, Commit, newMemStorage, newMemIndex, ZZNewIndex. -/
namespace Go.Proofs.YtffgkocokkhahaaGreatDoor
open Go.RowKit

/-- A memory store's own memory. -/
def MemC (w : World) (m : Nat) (d : Value) (id : Int) (rec : Value) (tnl : Int) (roll : Value) : Prop :=
  ∃ tail, w.heap[m]? = some (.cells (d :: .int .i64 id :: rec :: .int .i64 tnl :: roll :: tail).toArray 125 (0, 0))

theorem MemC.cell {w : World} {m : Nat} {d rec roll : Value} {id tnl : Int} (h : MemC w m d id rec tnl roll) :
    w.cell? ⟨m, 0, none⟩ = some d ∧ w.cell? ⟨m, 1, none⟩ = some (.int .i64 id) ∧ w.cell? ⟨m, 2, none⟩ = some rec ∧ w.cell? ⟨m, 3, none⟩ = some (.int .i64 tnl) ∧ w.cell? ⟨m, 4, none⟩ = some roll ∧
    (∀ o, w.frozen? ⟨m, o, none⟩ = false) ∧ m < w.heap.size := by
  obtain ⟨tail, h⟩ := h
  exact ⟨by rw [cell_of_heap h]; rfl, by rw [cell_of_heap h]; rfl, by rw [cell_of_heap h]; rfl, by rw [cell_of_heap h]; rfl, by rw [cell_of_heap h]; rfl, free_of_heap h, lt_of_heap h⟩

theorem MemC.chg {S : Nat → Prop} {w w' : World} {m : Nat} {d rec roll : Value} {id tnl : Int} (h : MemC w m d id rec tnl roll) (hc : Chg S w w') (hn : ¬ S m) : MemC w' m d id rec tnl roll := by
  obtain ⟨tail, h⟩ := h
  exact ⟨tail, heap_chg h hc hn⟩

def BeginP (m : Nat) (d : Value) (id : Int) (rec : Value) (tnl : Int) (roll : Value) (w : World) (y : Ending) (w' : World) : Prop :=
  y = .returned .nilIface ∧ ∃ r, w.heap.size ≤ r ∧ r < w'.heap.size ∧ w'.heap[r]? = some (.cells #[.slice none 0 0, roll, .int .i64 id] 132 (0, 0)) ∧ MemC w' m d id rec tnl (ptr r) ∧ Chg (fun b => b = m) w w'

set_option maxRecDepth 100000 in
set_option maxHeartbeats 1600000 in
theorem begin_any (m : Nat) (d rec roll : Value) (id tnl : Int) (w : World) (h : MemC w m d id rec tnl roll) (h0 : 0 ≤ tnl) (h1 : tnl ≤ 100) (hroll : ∃ a, roll = .pointer a) :
    Calls Tryz.prog 35 #[.pointer (some ⟨m, 0, none⟩)] w (BeginP m d id rec (tnl + 1) roll w) := by
  obtain ⟨c0, c1, c2, c3, c4, fr, lm⟩ := h.cell
  have f3 := fr 3
  have f4 := fr 4
  have hw1 : IntKind.i64.wrap (tnl + 1) = tnl + 1 := IntWalk.i64_in _ (by omega)
  obtain ⟨a0, rfl⟩ := hroll
  have H := Lib.hid h
  clear fr c0 c2 h
  go_enter Tryz.func35, Tryz.ntmps35
  go_wp2
  go_region
  go_wp2
  go_ret
  refine ⟨rfl, w.heap.size, Nat.le_refl _, by simp, ?_, ?_, ?_⟩
  · have := heap_new ((w.setCell ⟨m, 4, none⟩ (.pointer (some ⟨w.heap.size, 0, none⟩))).setCell ⟨m, 3, none⟩ (.int .i64 (tnl + 1))) (.cells #[.slice none 0 0, .pointer a0, .int .i64 id] 132)
    rw [heap_drew]
    simpa using this
  · obtain ⟨tail, h⟩ := H.out
    refine ⟨tail, ?_⟩
    rw [heap_drew, heap_alloc_ne _ _ _ (by simpa using lm), heap_setCell_at, heap_setCell_at, h]
    rfl
  · exact ((Chg.setCell (Chg.setCell (Chg.refl (fun b => b = m) w) (p := ⟨m, _, none⟩) (.inl rfl) _) (p := ⟨m, _, none⟩) (.inl rfl) _).alloc _).drew

set_option maxRecDepth 100000 in
set_option maxHeartbeats 1600000 in
theorem clone_nil (m : Nat) (w : World) :
    Calls Tryz.prog 78 #[.pointer (some ⟨m, 0, none⟩), .slice none 0 0] w fun y w' => ∃ A c, y = .returned (.slice A 0 c) ∧ Below w.heap.size w w' := by
  obtain ⟨i0, hi, hz0, hz1, hz2⟩ := info_parts info_iface
  obtain ⟨w1, hrun, hown, hg⟩ := run_make_full (P := Tryz.prog) w w.heap.size 87 20 i0 _ 1 Tryz.underlying87 hi hz0 hz1 .i64 .i64 0 (by omega) (by simp [maxLen]) (Nat.le_refl _)
  have hr : (Instr.makeSlice 87 (.int .i64 0) (.int .i64 0)).run Tryz.prog w = .ok (.slice (some ⟨w.heap.size, 0, none⟩) 0 0) w1 := hrun
  have HG := Lib.hid hg
  clear hrun hown hg
  go_enter Tryz.func78, Tryz.ntmps78
  go_wp2
  go_loopw [35] (fun i wr => i = .int .i64 0 ∧ wr = w1) (fun _ _ => 0)
  case atStart => exact ⟨rfl, rfl⟩
  case round =>
  obtain ⟨rfl, rfl⟩ := hrel
  go_wp2
  go_ret
  have hg := HG.out
  exact ⟨_, _, rfl, ⟨hg.os, hg.tape, hg.output, hg.size, fun k hk => hg.block k hk (by simp)⟩⟩

set_option maxRecDepth 100000 in
set_option maxHeartbeats 1600000 in
theorem commit_lone (m r : Nat) (L : Value) (d rec : Value) (id s : Int) (w : World) (h : MemC w m d id rec 1 (ptr r)) (hr : w.heap[r]? = some (.cells #[L, .pointer none, .int .i64 s] 132 (0, 0))) :
    Calls Tryz.prog 52 #[.pointer (some ⟨m, 0, none⟩)] w fun y w' => y = .returned .nilIface ∧ MemC w' m d id rec 0 (.pointer none) ∧ Chg (fun b => b = m) w w' := by
  obtain ⟨c0, c1, c2, c3, c4, fr, lm⟩ := h.cell
  have f3 := fr 3
  have f4 := fr 4
  replace c4 : w.cell? ⟨m, 4, none⟩ = some (.pointer (some ⟨r, 0, none⟩)) := c4
  have r1 : w.cell? ⟨r, 1, none⟩ = some (.pointer none) := cell_of_heap hr 1
  have lr := lt_of_heap hr
  have H := Lib.hid h
  have hmr : m ≠ r := by rintro rfl; obtain ⟨_, h⟩ := h; rw [hr] at h; injection h with h; injection h with _ ht; exact absurd ht (by decide)
  have hrm : ¬ r = m := fun h => hmr h.symm
  clear fr c0 c1 c2 h hr
  go_enter Tryz.func52, Tryz.ntmps52
  go_wp2
  go_ret
  refine ⟨rfl, ?_, Chg.setCell (Chg.setCell (Chg.refl (fun b => b = m) w) (p := ⟨m, _, none⟩) (.inl rfl) _) (p := ⟨m, _, none⟩) (.inl rfl) _⟩
  obtain ⟨tail, h⟩ := H.out
  refine ⟨tail, ?_⟩
  rw [heap_setCell_at, heap_setCell_at, h]
  rfl

end Go.Proofs.YtffgkocokkhahaaGreatDoor

/- (*mem).Create of a new store's first row. -/
namespace Go.Proofs.YtffgkocokkhahaaGreatDoor
open Go.RowKit

theorem info_row : (Tryz.prog.info? 87).map (fun i => (i.zero, i.size, i.bytes)) = some (some (.slice none 0 0), 1, 24) := by kernel_rfl

theorem Chg.of_grown {w w' : World} {row : Option Nat} (h : w.grownBy w' row) : Chg (fun b => some b = row) w w' := ⟨h.os, h.tape, h.output, h.size, fun k hk hn => h.block k hk hn⟩

def FirstP (m r : Nat) (id s : Int) (S : Nat → Prop) (w : World) (y : Ending) (w' : World) : Prop :=
  y = .returned (.tuple #[.int .i64 1, .nilIface]) ∧ ∃ d' L', MemC w' m d' id (.slice none 0 0) 1 (ptr r) ∧ w'.heap[r]? = some (.cells #[L', .pointer none, .int .i64 s] 132 (0, 0)) ∧ Chg S w w'

set_option maxRecDepth 100000 in
set_option maxHeartbeats 3200000 in
theorem create_first (B m r g : Nat) (cap : Nat) (xs : List Value) (id s : Int) (w : World) (h : MemC w m (.slice (some ⟨g, 0, none⟩) 1 cap) id (.slice none 0 0) 1 (ptr r))
    (hd : w.ownsRow 0 87 1 (.slice (some ⟨g, 0, none⟩) 1 cap) 1 xs) (hr : w.heap[r]? = some (.cells #[.slice none 0 0, .pointer none, .int .i64 s] 132 (0, 0))) (hB : ∀ b, b = m ∨ b = r ∨ b = g → B ≤ b) :
    Calls Tryz.prog 54 #[.pointer (some ⟨m, 0, none⟩), .slice none 0 0] w (FirstP m r id s (fun b => B ≤ b) w) := by
  obtain ⟨c0, c1, c2, c3, c4, fr, lm⟩ := h.cell
  replace c4 : w.cell? ⟨m, 4, none⟩ = some (.pointer (some ⟨r, 0, none⟩)) := c4
  obtain ⟨i0, hi0, hz0, hz1, hz2⟩ := info_parts info_row
  obtain ⟨i1, hi1, hy0, hy1, hy2⟩ := info_parts info_undo
  have f0 := fr 0
  have lr := lt_of_heap hr
  have hmr : m ≠ r := by rintro rfl; obtain ⟨_, h⟩ := h; rw [hr] at h; injection h with h; injection h with _ ht; exact absurd ht (by decide)
  have hrm : ¬ r = m := fun h => hmr h.symm
  have hgm : g ≠ m := by
    obtain ⟨_, h⟩ := h
    have := own_ne hd h (by decide)
    simpa [Value.ownBlock] using this
  have hgr : g ≠ r := by
    have := own_ne hd hr (by decide)
    simpa [Value.ownBlock] using this
  have H := Lib.hid h
  have HR := Lib.hid hr
  have HD := Lib.hid hd
  clear fr h hr hd
  go_enter Tryz.func54, Tryz.ntmps54
  go_wp2_with fail
  go_region_law
    (first
      | (refine step_append_lies _ (by rfl) _ _ _ (by rfl) 0 87 i0 _ 1 24 Tryz.underlying109 hi0 hz0 hz1 hz2 rfl (by omega) _ 1 xs (by rfl) ((own_below HD.out HB1.out).alloc _)
          ⟨w1.heap.size, 0, none⟩ 1 1 [.slice A1 0 k1] (by rfl) (by rfl) (World.news_of_block (cs := #[.slice A1 0 k1]) (t := 87) (fr := (0, 0)) (heap_alloc_new w1 _)) (by simp [Value.oneCell'])
          (by omega) (by simp [maxLen]) (by omega) (Nat.zero_le _) (w1.heap.size + 1) (by simp) ?_
         intro gg cap2 w2 hown2 hgrow hat hlt
         have E1 : Hid (w2.heap[m]? = w.heap[m]?) := Lib.hid ((hgrow.block m (by have := HB1.out.size; simp; omega) (by simp [Value.ownBlock]; omega)).trans ((heap_alloc_ne w1 m _ (by have := HB1.out.size; omega)).trans (HB1.out.block m lm)))
         have E2 : Hid (w2.heap[r]? = w.heap[r]?) := Lib.hid ((hgrow.block r (by have := HB1.out.size; simp; omega) (by simp [Value.ownBlock]; omega)).trans ((heap_alloc_ne w1 r _ (by have := HB1.out.size; omega)).trans (HB1.out.block r lr)))
         have e0 : w2.cell? ⟨m, 0, none⟩ = some (.slice (some ⟨g, 0, none⟩) 1 cap) := (World.cell?_of_block E1.out).trans c0
         have e1 : w2.frozen? ⟨m, 0, none⟩ = false := (World.frozen?_of_block E1.out).trans f0
         have e4 : w2.cell? ⟨m, 4, none⟩ = some (.pointer (some ⟨r, 0, none⟩)) := (World.cell?_of_block E1.out).trans c4
         have e5 : w2.cell? ⟨r, 0, none⟩ = some (.slice none 0 0) := (World.cell?_of_block E2.out).trans (cell_of_heap HR.out 0)
         have lm2 : m < w2.heap.size := by have := hgrow.size; have := HB1.out.size; simp at *; omega
         have lr2 : r < w2.heap.size := by have := hgrow.size; have := HB1.out.size; simp at *; omega
         have hs2 : w.heap.size ≤ w2.heap.size := by have := hgrow.size; have := HB1.out.size; simp at *; omega
         have HG2 := Lib.hid hgrow
         clear hgrow hown2)
      | (go_simp; go_at_call 78; refine (clone_nil m _).mono ?_; rintro y w1 ⟨A1, k1, rfl, hb1⟩; have HB1 : Hid (Below w.heap.size w w1) := (by first | exact Lib.hid hb1 | exact Lib.hid ⟨hb1.os, hb1.tape, hb1.output, hb1.size, hb1.block⟩); have d0 : w1.cell? ⟨m, 0, none⟩ = some (.slice (some ⟨g, 0, none⟩) 1 cap) := (World.cell?_of_block (HB1.out.block m lm)).trans c0; have d2 : (w1.alloc (.cells #[.slice A1 0 k1] 87)).cell? ⟨m, 0, none⟩ = some (.slice (some ⟨g, 0, none⟩) 1 cap) := (World.cell?_of_block (heap_alloc_ne w1 m _ (by have := HB1.out.size; omega))).trans d0; clear hb1))
  all_goals
    go_wp2_with (at_builtin
                 refine wpList_append_lies _ rfl (.tmp 39) (.tmp 42) _ rfl 0 163 i1 _ 3 40 Tryz.underlying130 hi1 hy0 hy1 hy2 rfl (by omega) (.slice none 0 0) 0 [] rfl (World.ownsRow_nil _ _ _ _)
                   ⟨w2.heap.size, 0, none⟩ 1 1 [.int .i64 0, .int .i64 1, .slice none 0 0] rfl rfl (World.news_of_block (cs := #[.int .i64 0, .int .i64 1, .slice none 0 0]) (t := 163) (fr := (0, 0)) (by have := heap_new (w2.setCell ⟨m, 0, none⟩ (.slice (some ⟨gg, 0, none⟩) (1 + 1) cap2)) (.cells #[.int .i64 0, .int .i64 1, .slice none 0 0] 163); simpa using this)) (by simp [Value.oneCell'])
                   (by omega) (by simp [maxLen]) (by omega) (Nat.zero_le _) (w2.heap.size + 1) (by simp) ?_
                 intro g3 cap3 w3 hown3 hgrow3 hat3 hlt3
                 have HR3 : Hid (w3.heap[r]? = some (.cells #[.slice none 0 0, .pointer none, .int .i64 s] 132 (0, 0))) := Lib.hid ((hgrow3.block r (by simp; omega) (by simp [Value.ownBlock])).trans ((heap_alloc_ne _ r _ (by simp; omega)).trans ((heap_setCell_ne _ _ _ _ _ hrm).trans (E2.out.trans HR.out))))
                 have HM3 : Hid (w3.heap[m]? = (w2.setCell ⟨m, 0, none⟩ (.slice (some ⟨gg, 0, none⟩) (1 + 1) cap2)).heap[m]?) := Lib.hid ((hgrow3.block m (by simp; omega) (by simp [Value.ownBlock])).trans (heap_alloc_ne _ m _ (by simp; omega)))
                 have r3 : w3.cell? ⟨r, 0, none⟩ = some (.slice none 0 0) := cell_of_heap HR3.out 0
                 have fr3 : w3.frozen? ⟨r, 0, none⟩ = false := free_of_heap HR3.out 0
                 have HG3 := Lib.hid hgrow3
                 clear hgrow3 hown3)
    go_ret2
    refine ⟨rfl, .slice (some ⟨gg, 0, none⟩) (1 + 1) cap2, .slice (some ⟨g3, 0, none⟩) (0 + 1) cap3, ?_, heap_set HR3.out 0 _, ?_⟩
    · obtain ⟨tail, h⟩ := H.out
      refine ⟨tail, ?_⟩
      rw [heap_setCell_ne _ _ _ _ _ hmr, HM3.out, heap_setCell_at, E1.out, h]
      rfl
    · have k1 : Chg (fun b => B ≤ b) w w1 := Chg.of_below HB1.out
      have k2 : Chg (fun b => B ≤ b) w w2 := (k1.alloc _).next (Chg.of_grown HG2.out) (fun b _ hb => hB b (.inr (.inr (by simpa [Value.ownBlock] using hb))))
      have k3 : Chg (fun b => B ≤ b) w w3 := ((k2.setCell (p := ⟨m, 0, none⟩) (.inl (hB m (.inl rfl))) _).alloc _).next (Chg.of_grown HG3.out) (fun b _ hb => by simp [Value.ownBlock] at hb)
      exact k3.setCell (p := ⟨r, 0, none⟩) (.inl (hB r (.inr (.inl rfl)))) _

end Go.Proofs.YtffgkocokkhahaaGreatDoor

/- A new memory store; a new index of it: newMemStorage, xtreeNew, newMemIndex, ZZNewIndex. -/
namespace Go.Proofs.YtffgkocokkhahaaGreatDoor
open Go.RowKit

set_option maxRecDepth 100000 in
set_option maxHeartbeats 3200000 in
theorem storage_any (w : World) :
    Calls Tryz.prog 33 #[] w fun y w' => ∃ m d', y = .returned (.tuple #[.pointer (some ⟨m, 0, none⟩), .nilIface]) ∧ MemC w' m d' 0 (.slice none 0 0) 0 (.pointer none) ∧ w.heap.size ≤ m ∧ Below w.heap.size w w' := by
  have hM0 : MemC ((w.alloc (.cells #[.slice none 0 0] 87)).alloc (.cells #[.slice (some ⟨w.heap.size, 0, none⟩) 1 1, .int .i64 0, .slice none 0 0, .int .i64 0, .pointer none, .int .i32 0, .int .u32 0, .int .u32 0, .int .u32 0, .int .i32 0, .int .i32 0] 125)) (w.heap.size + 1) (.slice (some ⟨w.heap.size, 0, none⟩) 1 1) 0 (.slice none 0 0) 0 (.pointer none) := ⟨[.int .i32 0, .int .u32 0, .int .u32 0, .int .u32 0, .int .i32 0, .int .i32 0], by have := heap_new (w.alloc (.cells #[.slice none 0 0] 87)) (.cells #[.slice (some ⟨w.heap.size, 0, none⟩) 1 1, .int .i64 0, .slice none 0 0, .int .i64 0, .pointer none, .int .i32 0, .int .u32 0, .int .u32 0, .int .u32 0, .int .i32 0, .int .i32 0] 125); simpa using this⟩
  have hA0 : ((w.alloc (.cells #[.slice none 0 0] 87)).alloc (.cells #[.slice (some ⟨w.heap.size, 0, none⟩) 1 1, .int .i64 0, .slice none 0 0, .int .i64 0, .pointer none, .int .i32 0, .int .u32 0, .int .u32 0, .int .u32 0, .int .i32 0, .int .i32 0] 125)).heap[w.heap.size]? = some (.cells #[.slice none 0 0] 87) := (heap_alloc_ne _ _ _ (by simp)).trans (heap_new w _)
  have hD0 : ((w.alloc (.cells #[.slice none 0 0] 87)).alloc (.cells #[.slice (some ⟨w.heap.size, 0, none⟩) 1 1, .int .i64 0, .slice none 0 0, .int .i64 0, .pointer none, .int .i32 0, .int .u32 0, .int .u32 0, .int .u32 0, .int .i32 0, .int .i32 0] 125)).ownsRow 0 87 1 (.slice (some ⟨w.heap.size, 0, none⟩) 1 1) 1 [.slice none 0 0] := ⟨rfl, .inr ⟨w.heap.size, 1, _, rfl, Nat.zero_le _, hA0, Nat.le_refl _, by simp [maxLen], rfl, rfl⟩⟩
  have hB0 : Below w.heap.size w ((w.alloc (.cells #[.slice none 0 0] 87)).alloc (.cells #[.slice (some ⟨w.heap.size, 0, none⟩) 1 1, .int .i64 0, .slice none 0 0, .int .i64 0, .pointer none, .int .i32 0, .int .u32 0, .int .u32 0, .int .u32 0, .int .i32 0, .int .i32 0] 125)) := below_al2 w _ _
  have HM0 := Lib.hid hM0
  have HA0 := Lib.hid hA0
  have HB0 := Lib.hid hB0
  clear hM0 hA0 hB0 hD0
  go_enter Tryz.func33, Tryz.ntmps33
  go_wp2_with (first
    | (go_at_call 35
       refine (begin_any (w.heap.size + 1) _ _ _ _ _ _ HM0.out (by omega) (by omega) ⟨_, rfl⟩).mono ?_
       rintro y w1 ⟨rfl, r, hr0, hr1, hr, hm1, hc1⟩
       have HA1 : Hid (w1.heap[w.heap.size]? = some (.cells #[.slice none 0 0] 87)) := Lib.hid ((hc1.block _ (by simp; omega) (by omega)).trans HA0.out)
       have HR1 := Lib.hid hr
       have HM1 := Lib.hid hm1
       have HC1 := Lib.hid hc1
       have hr2 : w.heap.size ≤ r := by simp at hr0; omega
       clear hr hm1 hc1 hr0)
    | (go_at_call 54
       refine (create_first w.heap.size (w.heap.size + 1) r w.heap.size 1 [.slice none 0 0] 0 0 w1 HM1.out ⟨rfl, .inr ⟨w.heap.size, 1, _, rfl, Nat.zero_le _, HA1.out, Nat.le_refl _, by simp [maxLen], rfl, rfl⟩⟩ HR1.out (by rintro b (h | h | h) <;> omega)).mono ?_
       rintro y w2 ⟨rfl, d2, L2, hm2, hr2', hc2⟩
       have HM2 := Lib.hid hm2
       have HR2 := Lib.hid hr2'
       have HC2 := Lib.hid hc2
       clear hm2 hr2' hc2)
    | (go_at_call 52
       refine (commit_lone (w.heap.size + 1) r L2 d2 _ 0 0 w2 HM2.out HR2.out).mono ?_
       rintro y w3 ⟨rfl, hm3, hc3⟩
       have HM3 := Lib.hid hm3
       have HC3 := Lib.hid hc3
       clear hm3 hc3))
  go_ret2
  refine ⟨w.heap.size + 1, d2, rfl, HM3.out, by omega, ?_⟩
  have k0 : Chg (fun b => w.heap.size ≤ b) w w1 := (Chg.of_below HB0.out).next HC1.out (fun b hb h => by omega)
  have k1 : Chg (fun b => w.heap.size ≤ b) w w2 := k0.next HC2.out (fun b _ h => h)
  have k2 : Chg (fun b => w.heap.size ≤ b) w w3 := k1.next HC3.out (fun b hb h => by omega)
  exact k2.below (Nat.le_refl _) (fun _ h => h)

set_option maxRecDepth 100000 in
set_option maxHeartbeats 3200000 in
theorem xtree_new (w : World) :
    Calls Tryz.prog 63 #[] w fun y w' => y = .returned (.pointer (some ⟨w.heap.size, 0, none⟩)) ∧ TreeW w' w.heap.size 0 (.pointer none) (.pointer none) .nilIface 0 ∧ w'.heap.size = w.heap.size + 1 ∧ Below w.heap.size w w' := by
  go_enter Tryz.func63, Tryz.ntmps63
  go_wp2
  go_ret
  exact ⟨rfl, heap_new w _, by simp, (Below.refl _ _).alloc (Nat.le_refl _) _⟩

set_option maxRecDepth 100000 in
set_option maxHeartbeats 3200000 in
theorem index_new (m : Nat) (uni : Bool) (w : World) :
    Calls Tryz.prog 34 #[.pointer (some ⟨m, 0, none⟩), .bool uni] w fun y w' => ∃ x t, y = .returned (.pointer (some ⟨x, 0, none⟩)) ∧ IdxW w' x m t uni ∧ TreeAt w' t [] (fun b => b = t) ∧ w.heap.size ≤ x ∧ w.heap.size ≤ t ∧ x ≠ t ∧ Below w.heap.size w w' := by
  go_enter Tryz.func34, Tryz.ntmps34
  go_wp2_with (go_at_call 63; refine (xtree_new _).mono ?_; rintro y w1 ⟨rfl, ht, hs, hb⟩; have HT := Lib.hid ht; have HB := Lib.hid hb; clear ht hb)
  go_ret
  have hl := lt_of_heap HT.out
  exact ⟨w.heap.size + 1, w.heap.size, rfl, by have := heap_new w1 (.cells #[.pointer (some ⟨m, 0, none⟩), .pointer (some ⟨w.heap.size, 0, none⟩), .bool uni] 129); rw [hs] at this; exact this, .none ⟨0, (heap_alloc_ne w1 _ _ hl).trans HT.out⟩, by omega, Nat.le_refl _, by omega, HB.out.alloc (by omega) _⟩

/-- An index that nothing has been put into, of a store in a transaction. -/
def NewP (uni : Bool) (w : World) (y : Ending) (w' : World) : Prop :=
  ∃ x m t r, y = .returned (.tuple #[.pointer (some ⟨x, 0, none⟩), .nilIface]) ∧ IdxW w' x m t uni ∧ TreeAt w' t [] (fun b => b = t) ∧ StoreAt w' m 0 r (.slice none 0 0) ∧
    w.heap.size ≤ x ∧ w.heap.size ≤ m ∧ w.heap.size ≤ t ∧ w.heap.size ≤ r ∧ Below w.heap.size w w'

set_option maxRecDepth 100000 in
set_option maxHeartbeats 3200000 in
theorem newIndex_any (uni : Bool) (w : World) : Calls Tryz.prog 25 #[.bool uni] w (NewP uni w) := by
  go_enter Tryz.func25, Tryz.ntmps25
  go_wp2_with (first
    | (go_at_call 33
       refine (storage_any _).mono ?_
       rintro y w1 ⟨m, d, rfl, hm1, hlm, hb1⟩
       have HM1 := Lib.hid hm1
       have HB1 := Lib.hid hb1
       have ls1 := hb1.size
       have lm1 := hm1.cell.2.2.2.2.2.2
       clear hm1 hb1)
    | (go_at_call 34
       refine (index_new m uni w1).mono ?_
       rintro y w2 ⟨x, t, rfl, hx2, ht2, lx, lt, hxt, hb2⟩
       have HM2 := Lib.hid (HM1.out.chg (Chg.of_below (S := fun _ => False) hb2) id)
       have HX2 := Lib.hid hx2
       have HT2 := Lib.hid ht2
       have HB2 := Lib.hid hb2
       have lx2 := lt_of_heap hx2
       have lt2 : t < w2.heap.size := by obtain ⟨ver, h, _⟩ := tree_empty ht2; exact lt_of_heap h
       clear hx2 ht2 hb2)
    | (go_at_call 35
       refine (begin_any m _ _ _ _ _ w2 HM2.out (by omega) (by omega) ⟨_, rfl⟩).mono ?_
       rintro y w3 ⟨rfl, r, lr, lr3, hr3, hm3, hc3⟩
       have HR3 := Lib.hid hr3
       have HM3 := Lib.hid hm3
       have HC3 := Lib.hid hc3
       clear hr3 hm3 hc3))
  go_ret2
  have hxm : ¬ x = m := by omega
  have htm : ¬ t = m := by omega
  obtain ⟨ver, hT, _⟩ := tree_empty HT2.out
  refine ⟨x, m, t, r, rfl, ?_, .none ⟨ver, heap_chg hT HC3.out htm⟩, ⟨?_, ⟨_, _, HR3.out⟩, ⟨[], World.ownsRow_nil _ _ _ _⟩⟩, by omega, by omega, by omega, by have := HB2.out.size; omega, ?_⟩
  · exact heap_chg (show w2.heap[x]? = _ from HX2.out) HC3.out hxm
  · obtain ⟨tail, h⟩ := HM3.out
    exact ⟨_, h, rfl⟩
  · have k0 : Chg (fun b => w.heap.size ≤ b) w w1 := Chg.of_below HB1.out
    have k1 : Chg (fun b => w.heap.size ≤ b) w w2 := k0.next (Chg.of_below (S := fun _ => False) HB2.out) (fun b _ h => h.elim)
    have k2 : Chg (fun b => w.heap.size ≤ b) w w3 := k1.next HC3.out (fun b hb h => by omega)
    exact k2.below (Nat.le_refl _) (fun _ h => h)

end Go.Proofs.YtffgkocokkhahaaGreatDoor

/- (*memIndex).Create of an index that is not unique. -/
namespace Go.Proofs.YtffgkocokkhahaaGreatDoor
open Go.RowKit

theorem own_chg {S : Nat → Prop} {w w' : World} {base : Nat} {e : TypeId} {size : Nat} {v : Value} {n : Nat} {xs : List Value} (h : w.ownsRow base e size v n xs) (hc : Chg S w w') (hn : ∀ b, v.ownBlock = some b → ¬ S b) : w'.ownsRow base e size v n xs := by
  obtain ⟨h1, h2⟩ := h
  refine ⟨h1, ?_⟩
  rcases h2 with h2 | ⟨g, cap, cur, e1, e2, e3, e4⟩
  · exact .inl h2
  · exact .inr ⟨g, cap, cur, e1, e2, heap_chg e3 hc (hn g (by rw [e1]; rfl)), e4⟩
theorem own_lt {w : World} {base : Nat} {e : TypeId} {size : Nat} {v : Value} {n : Nat} {xs : List Value} (h : w.ownsRow base e size v n xs) {b : Nat} (hb : v.ownBlock = some b) : b < w.heap.size := by
  rcases h.2 with ⟨h2, _⟩ | ⟨g, cap, cur, e1, e2, e3, e4⟩
  · rw [h2] at hb; cases hb
  · rw [e1] at hb
    have : g = b := by simpa [Value.ownBlock] using hb
    subst this
    exact lt_of_heap e3
theorem StoreAt.chg {S : Nat → Prop} {w w' : World} {m n r : Nat} {L : Value} (h : StoreAt w m n r L) (hc : Chg S w w') (hm : ¬ S m) (hr : ¬ S r) (hn : ∀ b, L.ownBlock = some b → ¬ S b) : StoreAt w' m n r L := by
  obtain ⟨⟨cs, h1, h2⟩, ⟨p, s, h3⟩, ⟨xs, h4⟩⟩ := h
  exact ⟨⟨cs, heap_chg h1 hc hm, h2⟩, ⟨p, s, heap_chg h3 hc hr⟩, ⟨xs, own_chg h4 hc hn⟩⟩
theorem StoreAt.lt {w : World} {m n r : Nat} {L : Value} (h : StoreAt w m n r L) : m < w.heap.size ∧ r < w.heap.size ∧ ∀ b, L.ownBlock = some b → b < w.heap.size := by
  obtain ⟨⟨cs, h1, h2⟩, ⟨p, s, h3⟩, ⟨xs, h4⟩⟩ := h
  exact ⟨lt_of_heap h1, lt_of_heap h3, fun b hb => own_lt h4 hb⟩
theorem StoreAt.ne {w : World} {m n r : Nat} {L : Value} (h : StoreAt w m n r L) {b : Nat} {cs : Array Value} {T : TypeId} {fr : Nat × Nat} (hb : w.heap[b]? = some (.cells cs T fr)) (h1 : T ≠ 132) (h2 : T ≠ 163) : ¬ b = r ∧ ¬ L.ownBlock = some b := by
  obtain ⟨_, ⟨p, s, h3⟩, ⟨xs, h4⟩⟩ := h
  exact ⟨fun e => by subst e; rw [hb] at h3; injection h3 with h3; injection h3 with _ ht; exact h1 ht, own_ne h4 hb (fun e => h2 e.symm)⟩

theorem TreeAt.chg {T S : Nat → Prop} {w w' : World} {t : Nat} {es : List XE} (h : TreeAt w t es S) (hc : Chg T w w') (hn : ∀ k, S k → ¬ T k) : TreeAt w' t es S := by
  cases h with
  | none h =>
    obtain ⟨ver, h⟩ := h
    exact .none ⟨ver, h.chg hc (hn t rfl)⟩
  | lone h =>
    obtain ⟨⟨ver, h1⟩, ⟨rest, h2⟩, h3⟩ := h
    exact .lone ⟨⟨ver, h1.chg hc (hn t (.inl rfl))⟩, ⟨rest, h2.chg hc (hn _ (.inr rfl))⟩, h3⟩
  | many h =>
    obtain ⟨⟨ver, h1⟩, ⟨b0, bs, xr, h2, h3⟩, h4, h5, h6, h7⟩ := h
    exact .many ⟨⟨ver, h1.chg hc (hn t (.inl (.inl rfl)))⟩, ⟨b0, bs, xr, h2, h3.chg hc (hn _ (.inl (.inr rfl)))⟩, chain_chg h4 hc (fun p hp => hn _ (.inr (mem_blocks hp))), h5, h6, h7⟩
theorem TreeAt.lt {S : Nat → Prop} {w : World} {t : Nat} {es : List XE} (h : TreeAt w t es S) : ∀ k, S k → k < w.heap.size := by
  cases h with
  | none h =>
    obtain ⟨ver, h⟩ := h
    rintro k rfl
    exact lt_of_heap h
  | lone h =>
    obtain ⟨⟨ver, h1⟩, ⟨rest, h2⟩, h3⟩ := h
    rintro k (rfl | rfl)
    · exact lt_of_heap h1
    · exact h2.lt
  | many h =>
    obtain ⟨⟨ver, h1⟩, ⟨b0, bs, xr, h2, h3⟩, h4, h5, h6, h7⟩ := h
    rintro k ((rfl | rfl) | hk)
    · exact lt_of_heap h1
    · exact lt_of_heap h3.heap
    · obtain ⟨p, hp, rfl⟩ := List.mem_map.1 hk
      exact chain_lt h4 p hp

/-- An index whose tree has the entries. -/
structure IdxAt (w : World) (x m t n r : Nat) (L : Value) (uni : Bool) (S : Nat → Prop) (es : List XE) : Prop where
  idx : IdxW w x m t uni
  tree : TreeAt w t es S
  store : StoreAt w m n r L
  apart : ∀ k, S k → k ≠ x ∧ k ≠ m ∧ k ≠ r ∧ L.ownBlock ≠ some k

def Mut (S : Nat → Prop) (r : Nat) (L : Value) : Nat → Prop := fun k => S k ∨ k = r ∨ L.ownBlock = some k

def CreateP (x m t n r : Nat) (L : Value) (uni : Bool) (S : Nat → Prop) (es : List XE) (w : World) (y : Ending) (w' : World) : Prop :=
  y = .returned .nilIface ∧ ∃ S' L', IdxAt w' x m t n r L' uni S' es ∧ Chg (Mut S r L) w w' ∧ ∀ k, Mut S' r L' k → Mut S r L k ∨ w.heap.size ≤ k

set_option maxRecDepth 100000 in
set_option maxHeartbeats 3200000 in
theorem create_any (x m t n r : Nat) (L : Value) (S : Nat → Prop) (es : List XE) (e : XE) (he : e.n = 0) (g : Nat) (cs s : Nat → Int) (w : World) (h : IdxAt w x m t n r L false S es) (hn : n ≤ 100000) (hlen : es.length ≤ 12800) (h0 : 0 ≤ e.h) (h1 : e.h ≤ 9223372036854775807)
    (ha : ∀ w', Chg (Mut S r L) w w' → Asks w' (.slice e.A e.m e.p) es cs) (hsd : ∀ (j : Nat) (e' : XE), es[j]? = some e' → s j = keyC (cs j) e.h e'.h) (hp : Pos s es.length g false) :
    Calls Tryz.prog 38 #[.pointer (some ⟨x, 0, none⟩), .slice e.A e.m e.p, .int .i64 e.h] w (CreateP x m t (n + 1) r L false S (es.take g ++ e :: es.drop g) w) := by
  obtain ⟨hx, ht, hst, hap⟩ := h
  have c0 : w.cell? ⟨x, 0, none⟩ = some (.pointer (some ⟨m, 0, none⟩)) := cell_of_heap hx 0
  have c1 : w.cell? ⟨x, 1, none⟩ = some (.pointer (some ⟨t, 0, none⟩)) := cell_of_heap hx 1
  have c2 : w.cell? ⟨x, 2, none⟩ = some (.bool false) := cell_of_heap hx 2
  have lx := lt_of_heap hx
  have HX := Lib.hid hx
  have HT := Lib.hid ht
  have HS := Lib.hid hst
  have HA := Lib.hid ha
  have HP := Lib.hid hap
  have HD := Lib.hid hsd
  have HQ := Lib.hid hp
  clear hx ht hst ha hap hsd hp
  go_enter Tryz.func38, Tryz.ntmps38
  go_wp2_with fail
  go_region_law
    (go_simp; go_at_call 64
     refine (undo_any m n r L _ (HS.out.chg (S := fun _ => False) (((Chg.refl _ w).alloc _).alloc _).drew id id (fun _ _ h => h)) hn 5 0 _ 2 2).mono ?_
     rintro y w2 ⟨rfl, L2, hs2, hc2, ho2⟩
     have HS2 := Lib.hid hs2
     have HO2 := Lib.hid ho2
     have HC2 : Hid (Chg (fun b => b = r ∨ L.ownBlock = some b) w w2) := Lib.hid (((((Chg.refl (fun b => b = r ∨ L.ownBlock = some b) w).alloc _).alloc _).drew).trans hc2)
     have HK2 : Hid (w2.heap[w.heap.size]? = some (.cells #[.slice e.A e.m e.p, .int .i64 e.h] 136 (0, 0))) := Lib.hid (heap_chg (((heap_drew _ _).trans (heap_alloc_ne _ _ _ (by simp))).trans (heap_new w _)) hc2 (fun h => by
       have h2 := HS.out.lt
       rcases h with h | h
       · omega
       · have := h2.2.2 _ h; omega))
     have k0 := cell_of_heap HK2.out 0
     have k1 := cell_of_heap HK2.out 1
     have HT2 : Hid (TreeAt w2 t es S) := Lib.hid (HT.out.chg HC2.out (fun k hk h => by
       have h3 := HP.out k hk
       rcases h with h | h
       · exact h3.2.2.1 h
       · exact h3.2.2.2 h))
     clear hs2 ho2 hc2)
  go_wp2_with (go_at_call 65
               have HSET := set_any t es S e g cs s w2 HT2.out hlen h0 h1 (HA.out w2 (HC2.out.mono (fun k _ h => .inr h))) HD.out HQ.out
               rw [he] at HSET
               refine HSET.mono ?_
               rintro y w3 ⟨rfl, S3, ht3, hc3, hg3⟩
               have HT3 := Lib.hid ht3
               have HC3 := Lib.hid hc3
               have HG3 := Lib.hid hg3
               clear ht3 hc3 hg3 HSET)
  all_goals
    go_ret
    have hxr := HS.out.ne HX.out (by decide) (by decide)
    have hls := HS.out.lt
    have hl2 := HS2.out.lt
    have hx2 : IdxW w2 x m t false := heap_chg HX.out HC2.out (fun h => h.elim hxr.1 hxr.2)
    have hx2' : w2.heap[x]? = some (.cells #[ptr m, ptr t, .bool false] 129 (0, 0)) := hx2
    have hxr2 := HS2.out.ne hx2' (by decide) (by decide)
    have lt2 := HT2.out.lt
    have hown : ∀ b, L2.ownBlock = some b → ¬ S b := fun b hb hS => by
      rcases HO2.out b hb with h | h
      · exact (HP.out b hS).2.2.2 h
      · have := HT.out.lt b hS
        simp at h
        omega
    refine ⟨rfl, S3, L2, ⟨heap_chg hx2' HC3.out (fun h => (HP.out x h).1 rfl), HT3.out, HS2.out.chg HC3.out (fun h => (HP.out m h).2.1 rfl) (fun h => (HP.out r h).2.2.1 rfl) hown, ?_⟩, ?_, ?_⟩
    · intro k hk
      rcases HG3.out k hk with h | h
      · exact ⟨(HP.out k h).1, (HP.out k h).2.1, (HP.out k h).2.2.1, fun hb => hown k hb h⟩
      · have hs2 := HC2.out.size
        exact ⟨by omega, by have := hl2.1; omega, by have := hl2.2.1; omega, fun hb => by have := hl2.2.2 k hb; omega⟩
    · exact (HC2.out.mono (fun k _ h => .inr h)).next HC3.out (fun k _ h => .inl h)
    · intro k hk
      have hs2 := HC2.out.size
      rcases hk with h | h | h
      · rcases HG3.out k h with h | h
        · exact .inl (.inl h)
        · exact .inr (by omega)
      · exact .inl (.inr (.inl h))
      · rcases HO2.out k h with h | h
        · exact .inl (.inr (.inr h))
        · simp at h
          exact .inr (by omega)

end Go.Proofs.YtffgkocokkhahaaGreatDoor
