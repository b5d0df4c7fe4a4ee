/-
  (*tree).overflow: a full page gives an entry to a neighbour, or is parted. || (*tree).overflow under a root. PRINTED BY wip/tpl/gen_yr.py. || (*tree).overflow under a root: the tree that comes of it.
-/
import Derived.Test.YtffgkocokkhahaaDoorTp15

/- (*tree).overflow: a full page gives an entry to a neighbour, or is parted. -/
namespace Go.Proofs.YtffgkocokkhahaaDoor
open Go.RowKit
variable {G : Value}

/-- The tree has become one of these entries. -/
def GrowP (G : Value) (t : Nat) (L : List XE) (S : Nat → Prop) (w : World) (y : Ending) (w' : World) : Prop :=
  y = .returned (.tuple #[]) ∧ ∃ S', TreeAt G w' t L S' ∧ Chg S w w' ∧ ∀ k, S' k → S k ∨ w.heap.size ≤ k

/-- What overflow has done before it looks at the neighbours. -/
theorem over_start {t : Nat} {c : Int} {fi la r : Value} {ver : Int} {w : World} (ht : TreeW G w t c fi la r ver) :
    TreeW G (w.setCell ⟨t, 5, none⟩ (.int .i64 (wrap64 (ver + 1)))) t c fi la r (wrap64 (ver + 1)) ∧
    Chg (fun b => b = t) w (w.setCell ⟨t, 5, none⟩ (.int .i64 (wrap64 (ver + 1)))) := by
  refine ⟨?_, ?_⟩
  · unfold TreeW
    rw [heap_setCell_at, show w.heap[t]? = _ from ht]
    rfl
  · exact Chg.setCell (Chg.refl (fun b => b = t) w) (p := ⟨t, 5, none⟩) (.inl rfl) _

/-- Two pages under a new root. -/
theorem below_al2 (w : World) (a c : Obj) : Below w.heap.size w ((w.alloc a).alloc c) := ((Below.refl _ _).alloc (Nat.le_refl _) _).alloc (by simp) _

theorem rooted_two {t q rb xb : Nat} {l1 l2 : List XE} {r1 r2 xr : List Value} {c : Int} {w : World} (ht : ∃ ver, TreeW G w t c (ptr q) (ptr rb) (.iface 126 (ptr xb)) ver)
    (h1 : PageAt w q l1 r1 (ptr rb) (.pointer none)) (h2 : PageAt w rb l2 r2 (.pointer none) (ptr q)) (hx : RootAt w xb q [rb] xr) (hqr : ¬ q = rb)
    (s1 : 64 ≤ l1.length ∧ l1.length ≤ 128) (s2 : 64 ≤ l2.length ∧ l2.length ≤ 128) : Rooted G w t xb [(q, l1), (rb, l2)] c :=
  ⟨ht, ⟨q, [rb], xr, rfl, hx⟩, ⟨⟨r1, h1⟩, ⟨r2, h2⟩, trivial⟩, by
    intro p hp
    simp at hp
    rcases hp with rfl | rfl
    · exact s1
    · exact s2, by simp [Blocks, hqr], by simp⟩

set_option maxRecDepth 100000 in
set_option maxHeartbeats 1000000 in
theorem over_lone (t q i : Nat) (es : List XE) (e : XE) (w : World) (h : Lone G w t q es es.length) (hl : es.length = 128) (hi : i ≤ 128) :
    Calls Tryd.prog 73 #[.pointer (some ⟨t, 0, none⟩), .pointer none, .pointer (some ⟨q, 0, none⟩), .int .i64 (-1), .int .i64 i, .slice e.A e.m e.p, .slice e.B e.n e.q] w
      (GrowP G t (es.take i ++ e :: es.drop i) (fun k => k = t ∨ k = q) w) := by
  have hne := h.ne
  obtain ⟨⟨ver, ht⟩, ⟨rest, hq⟩, _⟩ := h
  obtain ⟨ht1, hc1⟩ := over_start ht
  have ct4 : w.cell? ⟨t, 5, none⟩ = some (.int .i64 ver) := cell_of_heap ht 5
  have ft4 : w.frozen? ⟨t, 5, none⟩ = false := free_of_heap ht 5
  have lt := lt_of_heap ht
  have HT1 := Lib.hid ht1
  have HC1 := Lib.hid hc1
  have HQ1 := Lib.hid (hq.chg hc1 (fun h => hne h.symm))
  have HL := Lib.hid hl
  have LQ := Lib.hid hq.lt
  clear ht hq ht1 hc1 hl
  go_enter Tryd.func73, Tryd.ntmps73
  go_wp2_with (first
    | (go_at_call 102; refine (siblings_none _).mono ?_; rintro y w' ⟨rfl, rfl⟩)
    | (go_at_call 105; refine (split_leaf t q i es _ _ e _ _ _ _ _ _ HQ1.out HT1.out hne hi HL.out (by omega) (by rw [HL.out]; omega)).mono ?_; rintro y w2 ⟨rfl, rb, xb, xr, hh, hx, hxn, hxr, hc2⟩))
  first | go_end0 | refine bodyPost_ret (results_none rfl _ _ _) rfl ?_
  obtain ⟨hnew, hver, l1, l2, r1, r2, hl12, a1, a2, a3, a4, hp1, hp2⟩ := hh
  have hqn : ¬ q = rb := by
    have h1 := LQ.out
    have h2 := HC1.out.size
    omega
  have hcount : ((es.take i ++ e :: es.drop i).length : Int) = es.length + 1 := by
    have := HL.out
    simp [List.length_take]
    omega
  have hroot : Rooted G w2 t xb [(q, l1), (rb, l2)] ((ents [(q, l1), (rb, l2)]).length : Nat) := by
    have e1 : ents [(q, l1), (rb, l2)] = es.take i ++ e :: es.drop i := by rw [← hl12]; simp [ents]
    rw [e1, hcount]
    exact rooted_two hver hp1 hp2 hx hqn ⟨a1, by omega⟩ ⟨a3, by omega⟩
  have hat := TreeAt.many hroot
  have e1 : ents [(q, l1), (rb, l2)] = es.take i ++ e :: es.drop i := by rw [← hl12]; simp [ents]
  rw [e1] at hat
  refine ⟨rfl, _, hat, (HC1.out.mono (fun k _ h => .inl h)).trans hc2, fun k hk => ?_⟩
  have hs := HC1.out.size
  rcases hk with (hk | hk) | hk
  · exact .inl (.inl hk)
  · exact .inr (by omega)
  · simp [Blocks] at hk
    rcases hk with hk | hk
    · exact .inl (.inr hk)
    · exact .inr (by omega)

end Go.Proofs.YtffgkocokkhahaaDoor

/- (*tree).overflow under a root. PRINTED BY wip/tpl/gen_yr.py. -/
namespace Go.Proofs.YtffgkocokkhahaaDoor
open Go.RowKit
variable {G : Value}

set_option maxRecDepth 100000 in
set_option maxHeartbeats 1000000 in
theorem ov_room_any_any (t q x b0 k : Nat) (bs : List Nat) (es : List XE) (sq xr : List Value) (nq pq : Value) (e : XE) (c : Int) (fi la r : Value) (ver : Int) (w : World) (i : Nat) (lb : Nat) (ls : List XE) (sl : List Value) (nl pl : Value)
    (hq : PageAt w q es sq nq pq) (ht : TreeW G w t c fi la r ver) (hx : RootAt w x b0 bs xr) (hk : k ≤ bs.length) (hbs : bs.length ≤ 250) (hl : es.length = 128) (c0 : 0 ≤ c) (c1 : c ≤ 2147483646) (hsl : sibL (b0 :: bs) k = some lb) (hlp : PageAt w lb ls sl nl pl) (hlq : ¬ lb = q) (hll : ls.length < 128) (hi : i ≤ 128) (hi1 : 1 ≤ i) :
    Calls Tryd.prog 73 #[.pointer (some ⟨t, 0, none⟩), .pointer (some ⟨x, 0, none⟩), .pointer (some ⟨q, 0, none⟩), .int .i64 k, .int .i64 i, .slice e.A e.m e.p, .slice e.B e.n e.q] w
      (fun y w' => y = .returned (.tuple #[]) ∧ (∃ s, PageAt w' lb (ls ++ es.take 1) s nl pl) ∧ (∃ s, PageAt w' q ((es.drop 1).take (i - 1) ++ e :: (es.drop 1).drop (i - 1)) s nq pq) ∧ (∃ v, TreeW G w' t (c + 1) fi la r v) ∧ Chg (fun b => b = t ∨ b = lb ∨ b = q) w w') := by
  have hqt := tag_ne hq.heap ht (by decide)
  have hxt := tag_ne hx.heap ht (by decide)
  have hxq := tag_ne hx.heap hq.heap (by decide)
  have htq : ¬ t = q := fun h => hqt h.symm
  have hlt := tag_ne hlp.heap ht (by decide)
  obtain ⟨ht1, hc1⟩ := over_start ht
  have ct4 : w.cell? ⟨t, 5, none⟩ = some (.int .i64 ver) := cell_of_heap ht 5
  have ft4 : w.frozen? ⟨t, 5, none⟩ = false := free_of_heap ht 5
  have lt := lt_of_heap ht
  have HT1 := Lib.hid ht1
  have HC1 := Lib.hid hc1
  have HQ1 := Lib.hid (hq.chg hc1 hqt)
  have HX1 := Lib.hid (hx.chg hc1 hxt)
  have HL1 := Lib.hid (hlp.chg hc1 hlt)
  have cl0 : (w.setCell ⟨t, 5, none⟩ (.int .i64 (wrap64 (ver + 1)))).cell? ⟨lb, 0, none⟩ = some (.int .i64 ls.length) := by rw [HL1.out.cell]; rfl
  have hlc : ((ls.length : Int) < 128) = True := by simp; omega
  have HL := Lib.hid hl
  have hsib := fun w' (h : RootAt w' x b0 bs xr) => siblings_some x b0 bs xr k w' h hk (by omega)
  rw [hsl, show pgPtr (some lb) = .pointer (some ⟨lb, 0, none⟩) from rfl] at hsib
  obtain ⟨RV, hRV⟩ : ∃ RV, pgPtr (sibR (b0 :: bs) k) = RV := ⟨_, rfl⟩
  rw [hRV] at hsib
  have HS := Lib.hid hsib
  clear hsib hsl ht hq ht1 hc1 hl hx hlp hRV
  obtain ⟨j, hj⟩ : ∃ j, j = i - 1 := ⟨_, rfl⟩
  have hj1 : (i : Int) - 1 = ↑j := by omega
  rw [← hj]
  have hj2 : j ≤ 127 := by omega
  clear hj
  go_enter Tryd.func73, Tryd.ntmps73
  go_wp2_with (first | (go_at_call 102; refine (HS.out _ HX1.out).mono ?_; rintro y w' ⟨rfl, rfl⟩) | (go_at_call 103; refine (mvL_any lb q 1 ls es _ _ _ _ _ _ _ HL1.out HQ1.out hlq (by rw [HL.out]; omega) (by omega) (by omega) (by rw [HL.out]; omega)).mono ?_; rintro y w2 ⟨rfl, ⟨s1, hp1⟩, ⟨s2, hp2⟩, hc2⟩; have HP1 := Lib.hid hp1; have HP2 := Lib.hid hp2; have HT2 := Lib.hid (HT1.out.chg hc2 (by rintro (h | h); exact hlt h.symm; exact htq h)); clear hp1 hp2) | (go_at_call 72; refine (insert_any t q j (es.drop 1) _ _ _ e c fi la r _ _ HP2.out HT2.out htq (by rw [List.length_drop, HL.out]; omega) (by rw [List.length_drop, HL.out]; omega) c0 (by omega)).mono ?_; rintro y w3 ⟨rfl, hp3, ht3, hc3⟩))
  first | go_end0 | refine bodyPost_ret (results_none rfl _ _ _) rfl ?_
  exact ⟨rfl, ⟨_, HP1.out.chg hc3 (by rintro (h | h); exact hlt h; exact hlq h)⟩, ⟨_, hp3⟩, ht3, ((HC1.out.mono (T := fun b => b = t ∨ b = lb ∨ b = q) (fun k _ h => .inl h)).next hc2 (fun k _ h => .inr h)).next hc3 (fun k _ h => by rcases h with h | h; exact .inl h; exact .inr (.inr h))⟩

set_option maxRecDepth 100000 in
set_option maxHeartbeats 1000000 in
theorem ov_none_room_lt (t q x b0 k : Nat) (bs : List Nat) (es : List XE) (sq xr : List Value) (nq pq : Value) (e : XE) (c : Int) (fi la r : Value) (ver : Int) (w : World) (i : Nat) (rb : Nat) (rs : List XE) (sr : List Value) (nr pr : Value)
    (hq : PageAt w q es sq nq pq) (ht : TreeW G w t c fi la r ver) (hx : RootAt w x b0 bs xr) (hk : k ≤ bs.length) (hbs : bs.length ≤ 250) (hl : es.length = 128) (c0 : 0 ≤ c) (c1 : c ≤ 2147483646) (hsl : sibL (b0 :: bs) k = none) (hsr : sibR (b0 :: bs) k = some rb) (hrp : PageAt w rb rs sr nr pr) (hrq : ¬ rb = q) (hrl : rs.length < 128) (hi : i < 128) :
    Calls Tryd.prog 73 #[.pointer (some ⟨t, 0, none⟩), .pointer (some ⟨x, 0, none⟩), .pointer (some ⟨q, 0, none⟩), .int .i64 k, .int .i64 i, .slice e.A e.m e.p, .slice e.B e.n e.q] w
      (fun y w' => y = .returned (.tuple #[]) ∧ (∃ s, PageAt w' q ((es.take 127).take i ++ e :: (es.take 127).drop i) s nq pq) ∧ (∃ s, PageAt w' rb (es.drop 127 ++ rs) s nr pr) ∧ (∃ v, TreeW G w' t (c + 1) fi la r v) ∧ Chg (fun b => b = t ∨ b = q ∨ b = rb) w w') := by
  have hqt := tag_ne hq.heap ht (by decide)
  have hxt := tag_ne hx.heap ht (by decide)
  have hxq := tag_ne hx.heap hq.heap (by decide)
  have htq : ¬ t = q := fun h => hqt h.symm
  have hrt := tag_ne hrp.heap ht (by decide)
  have hxr := tag_ne hx.heap hrp.heap (by decide)
  obtain ⟨ht1, hc1⟩ := over_start ht
  have ct4 : w.cell? ⟨t, 5, none⟩ = some (.int .i64 ver) := cell_of_heap ht 5
  have ft4 : w.frozen? ⟨t, 5, none⟩ = false := free_of_heap ht 5
  have lt := lt_of_heap ht
  have HT1 := Lib.hid ht1
  have HC1 := Lib.hid hc1
  have HQ1 := Lib.hid (hq.chg hc1 hqt)
  have HX1 := Lib.hid (hx.chg hc1 hxt)
  have HR1 := Lib.hid (hrp.chg hc1 hrt)
  have cr0 : (w.setCell ⟨t, 5, none⟩ (.int .i64 (wrap64 (ver + 1)))).cell? ⟨rb, 0, none⟩ = some (.int .i64 rs.length) := by rw [HR1.out.cell]; rfl
  have hrc : ((rs.length : Int) < 128) = True := by simp; omega
  have HL := Lib.hid hl
  have hsib := fun w' (h : RootAt w' x b0 bs xr) => siblings_some x b0 bs xr k w' h hk (by omega)
  rw [hsl, show pgPtr none = .pointer none from rfl] at hsib
  rw [hsr, show pgPtr (some rb) = .pointer (some ⟨rb, 0, none⟩) from rfl] at hsib
  have HS := Lib.hid hsib
  clear hsib hsl ht hq ht1 hc1 hl hx hrp hsr
  have hic : (i : Int) < 128 := by omega
  go_enter Tryd.func73, Tryd.ntmps73
  go_wp2_with (first | (go_at_call 102; refine (HS.out _ HX1.out).mono ?_; rintro y w' ⟨rfl, rfl⟩) | (go_at_call 104; refine (mvR_any q rb 1 es rs _ _ _ _ _ _ _ HQ1.out HR1.out (fun h => hrq h.symm) (by rw [HL.out]; omega) (by omega) (by rw [HL.out]; omega)).mono ?_; rintro y w2 ⟨rfl, ⟨s1, hp1⟩, ⟨s2, hp2⟩, hc2⟩; rw [HL.out] at hp1 hp2; have HP1 := Lib.hid hp1; have HP2 := Lib.hid hp2; have HT2 := Lib.hid (HT1.out.chg hc2 (by rintro (h | h); exact htq h; exact hrt h.symm)); clear hp1 hp2) | (go_at_call 72; refine (insert_any t q i (es.take 127) _ _ _ e c fi la r _ _ HP1.out HT2.out htq (by rw [List.length_take, HL.out]; omega) (by rw [List.length_take, HL.out]; omega) c0 (by omega)).mono ?_; rintro y w3 ⟨rfl, hp3, ht3, hc3⟩))
  first | go_end0 | refine bodyPost_ret (results_none rfl _ _ _) rfl ?_
  exact ⟨rfl, ⟨_, hp3⟩, ⟨_, HP2.out.chg hc3 (by rintro (h | h); exact hrt h; exact hrq h)⟩, ht3, ((HC1.out.mono (T := fun b => b = t ∨ b = q ∨ b = rb) (fun k _ h => .inl h)).next hc2 (fun k _ h => .inr h)).next hc3 (fun k _ h => by rcases h with h | h; exact .inl h; exact .inr (.inl h))⟩

set_option maxRecDepth 100000 in
set_option maxHeartbeats 1000000 in
theorem ov_full_room_lt (t q x b0 k : Nat) (bs : List Nat) (es : List XE) (sq xr : List Value) (nq pq : Value) (e : XE) (c : Int) (fi la r : Value) (ver : Int) (w : World) (i : Nat) (lb : Nat) (ls : List XE) (sl : List Value) (nl pl : Value) (rb : Nat) (rs : List XE) (sr : List Value) (nr pr : Value)
    (hq : PageAt w q es sq nq pq) (ht : TreeW G w t c fi la r ver) (hx : RootAt w x b0 bs xr) (hk : k ≤ bs.length) (hbs : bs.length ≤ 250) (hl : es.length = 128) (c0 : 0 ≤ c) (c1 : c ≤ 2147483646) (hsl : sibL (b0 :: bs) k = some lb) (hlp : PageAt w lb ls sl nl pl) (hll : ls.length = 128) (hsr : sibR (b0 :: bs) k = some rb) (hrp : PageAt w rb rs sr nr pr) (hrq : ¬ rb = q) (hrl : rs.length < 128) (hi : i < 128) :
    Calls Tryd.prog 73 #[.pointer (some ⟨t, 0, none⟩), .pointer (some ⟨x, 0, none⟩), .pointer (some ⟨q, 0, none⟩), .int .i64 k, .int .i64 i, .slice e.A e.m e.p, .slice e.B e.n e.q] w
      (fun y w' => y = .returned (.tuple #[]) ∧ (∃ s, PageAt w' q ((es.take 127).take i ++ e :: (es.take 127).drop i) s nq pq) ∧ (∃ s, PageAt w' rb (es.drop 127 ++ rs) s nr pr) ∧ (∃ v, TreeW G w' t (c + 1) fi la r v) ∧ Chg (fun b => b = t ∨ b = q ∨ b = rb) w w') := by
  have hqt := tag_ne hq.heap ht (by decide)
  have hxt := tag_ne hx.heap ht (by decide)
  have hxq := tag_ne hx.heap hq.heap (by decide)
  have htq : ¬ t = q := fun h => hqt h.symm
  have hlt := tag_ne hlp.heap ht (by decide)
  have hrt := tag_ne hrp.heap ht (by decide)
  have hxr := tag_ne hx.heap hrp.heap (by decide)
  obtain ⟨ht1, hc1⟩ := over_start ht
  have ct4 : w.cell? ⟨t, 5, none⟩ = some (.int .i64 ver) := cell_of_heap ht 5
  have ft4 : w.frozen? ⟨t, 5, none⟩ = false := free_of_heap ht 5
  have lt := lt_of_heap ht
  have HT1 := Lib.hid ht1
  have HC1 := Lib.hid hc1
  have HQ1 := Lib.hid (hq.chg hc1 hqt)
  have HX1 := Lib.hid (hx.chg hc1 hxt)
  have HL1 := Lib.hid (hlp.chg hc1 hlt)
  have cl0 : (w.setCell ⟨t, 5, none⟩ (.int .i64 (wrap64 (ver + 1)))).cell? ⟨lb, 0, none⟩ = some (.int .i64 ls.length) := by rw [HL1.out.cell]; rfl
  have hlc : ((ls.length : Int) < 128) = False := by simp; omega
  have HR1 := Lib.hid (hrp.chg hc1 hrt)
  have cr0 : (w.setCell ⟨t, 5, none⟩ (.int .i64 (wrap64 (ver + 1)))).cell? ⟨rb, 0, none⟩ = some (.int .i64 rs.length) := by rw [HR1.out.cell]; rfl
  have hrc : ((rs.length : Int) < 128) = True := by simp; omega
  have HL := Lib.hid hl
  have hsib := fun w' (h : RootAt w' x b0 bs xr) => siblings_some x b0 bs xr k w' h hk (by omega)
  rw [hsl, show pgPtr (some lb) = .pointer (some ⟨lb, 0, none⟩) from rfl] at hsib
  rw [hsr, show pgPtr (some rb) = .pointer (some ⟨rb, 0, none⟩) from rfl] at hsib
  have HS := Lib.hid hsib
  clear hsib hsl ht hq ht1 hc1 hl hx hlp hrp hsr
  have hic : (i : Int) < 128 := by omega
  go_enter Tryd.func73, Tryd.ntmps73
  go_wp2_with (first | (go_at_call 102; refine (HS.out _ HX1.out).mono ?_; rintro y w' ⟨rfl, rfl⟩) | (go_at_call 104; refine (mvR_any q rb 1 es rs _ _ _ _ _ _ _ HQ1.out HR1.out (fun h => hrq h.symm) (by rw [HL.out]; omega) (by omega) (by rw [HL.out]; omega)).mono ?_; rintro y w2 ⟨rfl, ⟨s1, hp1⟩, ⟨s2, hp2⟩, hc2⟩; rw [HL.out] at hp1 hp2; have HP1 := Lib.hid hp1; have HP2 := Lib.hid hp2; have HT2 := Lib.hid (HT1.out.chg hc2 (by rintro (h | h); exact htq h; exact hrt h.symm)); clear hp1 hp2) | (go_at_call 72; refine (insert_any t q i (es.take 127) _ _ _ e c fi la r _ _ HP1.out HT2.out htq (by rw [List.length_take, HL.out]; omega) (by rw [List.length_take, HL.out]; omega) c0 (by omega)).mono ?_; rintro y w3 ⟨rfl, hp3, ht3, hc3⟩))
  first | go_end0 | refine bodyPost_ret (results_none rfl _ _ _) rfl ?_
  exact ⟨rfl, ⟨_, hp3⟩, ⟨_, HP2.out.chg hc3 (by rintro (h | h); exact hrt h; exact hrq h)⟩, ht3, ((HC1.out.mono (T := fun b => b = t ∨ b = q ∨ b = rb) (fun k _ h => .inl h)).next hc2 (fun k _ h => .inr h)).next hc3 (fun k _ h => by rcases h with h | h; exact .inl h; exact .inr (.inl h))⟩

set_option maxRecDepth 100000 in
set_option maxHeartbeats 1000000 in
theorem ov_none_room_eq (t q x b0 k : Nat) (bs : List Nat) (es : List XE) (sq xr : List Value) (nq pq : Value) (e : XE) (c : Int) (fi la r : Value) (ver : Int) (w : World) (i : Nat) (rb : Nat) (rs : List XE) (sr : List Value) (nr pr : Value)
    (hq : PageAt w q es sq nq pq) (ht : TreeW G w t c fi la r ver) (hx : RootAt w x b0 bs xr) (hk : k ≤ bs.length) (hbs : bs.length ≤ 250) (hl : es.length = 128) (c0 : 0 ≤ c) (c1 : c ≤ 2147483646) (hsl : sibL (b0 :: bs) k = none) (hsr : sibR (b0 :: bs) k = some rb) (hrp : PageAt w rb rs sr nr pr) (hrl : rs.length < 128) (hi : i = 128) :
    Calls Tryd.prog 73 #[.pointer (some ⟨t, 0, none⟩), .pointer (some ⟨x, 0, none⟩), .pointer (some ⟨q, 0, none⟩), .int .i64 k, .int .i64 i, .slice e.A e.m e.p, .slice e.B e.n e.q] w
      (fun y w' => y = .returned (.tuple #[]) ∧ (∃ s, PageAt w' rb (e :: rs) s nr pr) ∧ (∃ v, TreeW G w' t (c + 1) fi la r v) ∧ Chg (fun b => b = t ∨ b = rb) w w') := by
  have hqt := tag_ne hq.heap ht (by decide)
  have hxt := tag_ne hx.heap ht (by decide)
  have hxq := tag_ne hx.heap hq.heap (by decide)
  have htq : ¬ t = q := fun h => hqt h.symm
  have hrt := tag_ne hrp.heap ht (by decide)
  have hxr := tag_ne hx.heap hrp.heap (by decide)
  obtain ⟨ht1, hc1⟩ := over_start ht
  have ct4 : w.cell? ⟨t, 5, none⟩ = some (.int .i64 ver) := cell_of_heap ht 5
  have ft4 : w.frozen? ⟨t, 5, none⟩ = false := free_of_heap ht 5
  have lt := lt_of_heap ht
  have HT1 := Lib.hid ht1
  have HC1 := Lib.hid hc1
  have HQ1 := Lib.hid (hq.chg hc1 hqt)
  have HX1 := Lib.hid (hx.chg hc1 hxt)
  have HR1 := Lib.hid (hrp.chg hc1 hrt)
  have cr0 : (w.setCell ⟨t, 5, none⟩ (.int .i64 (wrap64 (ver + 1)))).cell? ⟨rb, 0, none⟩ = some (.int .i64 rs.length) := by rw [HR1.out.cell]; rfl
  have hrc : ((rs.length : Int) < 128) = True := by simp; omega
  have HL := Lib.hid hl
  have hsib := fun w' (h : RootAt w' x b0 bs xr) => siblings_some x b0 bs xr k w' h hk (by omega)
  rw [hsl, show pgPtr none = .pointer none from rfl] at hsib
  rw [hsr, show pgPtr (some rb) = .pointer (some ⟨rb, 0, none⟩) from rfl] at hsib
  have HS := Lib.hid hsib
  clear hsib hsl ht hq ht1 hc1 hl hx hrp hsr
  have hic : ((i : Int) < 128) = False := by simp; omega
  go_enter Tryd.func73, Tryd.ntmps73
  go_wp2_with (first | (go_at_call 102; refine (HS.out _ HX1.out).mono ?_; rintro y w' ⟨rfl, rfl⟩) | (go_at_call 72; refine (insert_any t rb 0 rs _ _ _ e c fi la r _ _ HR1.out HT1.out (fun h => hrt h.symm) (by omega) (by omega) c0 (by omega)).mono ?_; rintro y w3 ⟨rfl, hp3, ht3, hc3⟩))
  first | go_end0 | refine bodyPost_ret (results_none rfl _ _ _) rfl ?_
  exact ⟨rfl, ⟨_, hp3⟩, ht3, (HC1.out.mono (T := fun b => b = t ∨ b = rb) (fun k _ h => .inl h)).next hc3 (fun k _ h => h)⟩

set_option maxRecDepth 100000 in
set_option maxHeartbeats 1000000 in
theorem ov_full_room_eq (t q x b0 k : Nat) (bs : List Nat) (es : List XE) (sq xr : List Value) (nq pq : Value) (e : XE) (c : Int) (fi la r : Value) (ver : Int) (w : World) (i : Nat) (lb : Nat) (ls : List XE) (sl : List Value) (nl pl : Value) (rb : Nat) (rs : List XE) (sr : List Value) (nr pr : Value)
    (hq : PageAt w q es sq nq pq) (ht : TreeW G w t c fi la r ver) (hx : RootAt w x b0 bs xr) (hk : k ≤ bs.length) (hbs : bs.length ≤ 250) (hl : es.length = 128) (c0 : 0 ≤ c) (c1 : c ≤ 2147483646) (hsl : sibL (b0 :: bs) k = some lb) (hlp : PageAt w lb ls sl nl pl) (hll : ls.length = 128) (hsr : sibR (b0 :: bs) k = some rb) (hrp : PageAt w rb rs sr nr pr) (hrl : rs.length < 128) (hi : i = 128) :
    Calls Tryd.prog 73 #[.pointer (some ⟨t, 0, none⟩), .pointer (some ⟨x, 0, none⟩), .pointer (some ⟨q, 0, none⟩), .int .i64 k, .int .i64 i, .slice e.A e.m e.p, .slice e.B e.n e.q] w
      (fun y w' => y = .returned (.tuple #[]) ∧ (∃ s, PageAt w' rb (e :: rs) s nr pr) ∧ (∃ v, TreeW G w' t (c + 1) fi la r v) ∧ Chg (fun b => b = t ∨ b = rb) w w') := by
  have hqt := tag_ne hq.heap ht (by decide)
  have hxt := tag_ne hx.heap ht (by decide)
  have hxq := tag_ne hx.heap hq.heap (by decide)
  have htq : ¬ t = q := fun h => hqt h.symm
  have hlt := tag_ne hlp.heap ht (by decide)
  have hrt := tag_ne hrp.heap ht (by decide)
  have hxr := tag_ne hx.heap hrp.heap (by decide)
  obtain ⟨ht1, hc1⟩ := over_start ht
  have ct4 : w.cell? ⟨t, 5, none⟩ = some (.int .i64 ver) := cell_of_heap ht 5
  have ft4 : w.frozen? ⟨t, 5, none⟩ = false := free_of_heap ht 5
  have lt := lt_of_heap ht
  have HT1 := Lib.hid ht1
  have HC1 := Lib.hid hc1
  have HQ1 := Lib.hid (hq.chg hc1 hqt)
  have HX1 := Lib.hid (hx.chg hc1 hxt)
  have HL1 := Lib.hid (hlp.chg hc1 hlt)
  have cl0 : (w.setCell ⟨t, 5, none⟩ (.int .i64 (wrap64 (ver + 1)))).cell? ⟨lb, 0, none⟩ = some (.int .i64 ls.length) := by rw [HL1.out.cell]; rfl
  have hlc : ((ls.length : Int) < 128) = False := by simp; omega
  have HR1 := Lib.hid (hrp.chg hc1 hrt)
  have cr0 : (w.setCell ⟨t, 5, none⟩ (.int .i64 (wrap64 (ver + 1)))).cell? ⟨rb, 0, none⟩ = some (.int .i64 rs.length) := by rw [HR1.out.cell]; rfl
  have hrc : ((rs.length : Int) < 128) = True := by simp; omega
  have HL := Lib.hid hl
  have hsib := fun w' (h : RootAt w' x b0 bs xr) => siblings_some x b0 bs xr k w' h hk (by omega)
  rw [hsl, show pgPtr (some lb) = .pointer (some ⟨lb, 0, none⟩) from rfl] at hsib
  rw [hsr, show pgPtr (some rb) = .pointer (some ⟨rb, 0, none⟩) from rfl] at hsib
  have HS := Lib.hid hsib
  clear hsib hsl ht hq ht1 hc1 hl hx hlp hrp hsr
  have hic : ((i : Int) < 128) = False := by simp; omega
  go_enter Tryd.func73, Tryd.ntmps73
  go_wp2_with (first | (go_at_call 102; refine (HS.out _ HX1.out).mono ?_; rintro y w' ⟨rfl, rfl⟩) | (go_at_call 72; refine (insert_any t rb 0 rs _ _ _ e c fi la r _ _ HR1.out HT1.out (fun h => hrt h.symm) (by omega) (by omega) c0 (by omega)).mono ?_; rintro y w3 ⟨rfl, hp3, ht3, hc3⟩))
  first | go_end0 | refine bodyPost_ret (results_none rfl _ _ _) rfl ?_
  exact ⟨rfl, ⟨_, hp3⟩, ht3, (HC1.out.mono (T := fun b => b = t ∨ b = rb) (fun k _ h => .inl h)).next hc3 (fun k _ h => h)⟩

set_option maxRecDepth 100000 in
set_option maxHeartbeats 1000000 in
theorem ov_none_full_any (t q x b0 k : Nat) (bs : List Nat) (es : List XE) (sq xr : List Value) (pq : Value) (e : XE) (c : Int) (fi la r : Value) (ver : Int) (w : World) (i : Nat) (rb : Nat) (rs : List XE) (sr : List Value) (nr : Value)
    (hq : PageAt w q es sq (.pointer (some ⟨rb, 0, none⟩)) pq) (ht : TreeW G w t c fi la r ver) (hx : RootAt w x b0 bs xr) (hk : k ≤ bs.length) (hbs : bs.length ≤ 250) (hl : es.length = 128) (c0 : 0 ≤ c) (c1 : c ≤ 2147483646) (hsl : sibL (b0 :: bs) k = none) (hsr : sibR (b0 :: bs) k = some rb) (hrp : PageAt w rb rs sr nr (.pointer (some ⟨q, 0, none⟩))) (hrq : ¬ rb = q) (hrl : rs.length = 128) (hi : i ≤ 128) :
    Calls Tryd.prog 73 #[.pointer (some ⟨t, 0, none⟩), .pointer (some ⟨x, 0, none⟩), .pointer (some ⟨q, 0, none⟩), .int .i64 k, .int .i64 i, .slice e.A e.m e.p, .slice e.B e.n e.q] w
      (fun y w' => y = .returned (.tuple #[]) ∧ ∃ nb s, Halves G w w' t q es i e (.pointer (some ⟨rb, 0, none⟩)) pq c fi nb la r ∧ RootAt w' x b0 (bs.take k ++ nb :: bs.drop k) s ∧ PageAt w' rb rs sr nr (.pointer (some ⟨nb, 0, none⟩)) ∧ Chg (fun b => (b = t ∨ b = q ∨ b = rb) ∨ b = x) w w') := by
  have hqt := tag_ne hq.heap ht (by decide)
  have hxt := tag_ne hx.heap ht (by decide)
  have hxq := tag_ne hx.heap hq.heap (by decide)
  have htq : ¬ t = q := fun h => hqt h.symm
  have hrt := tag_ne hrp.heap ht (by decide)
  have hxr := tag_ne hx.heap hrp.heap (by decide)
  obtain ⟨ht1, hc1⟩ := over_start ht
  have ct4 : w.cell? ⟨t, 5, none⟩ = some (.int .i64 ver) := cell_of_heap ht 5
  have ft4 : w.frozen? ⟨t, 5, none⟩ = false := free_of_heap ht 5
  have lt := lt_of_heap ht
  have HT1 := Lib.hid ht1
  have HC1 := Lib.hid hc1
  have HQ1 := Lib.hid (hq.chg hc1 hqt)
  have HX1 := Lib.hid (hx.chg hc1 hxt)
  have HR1 := Lib.hid (hrp.chg hc1 hrt)
  have cr0 : (w.setCell ⟨t, 5, none⟩ (.int .i64 (wrap64 (ver + 1)))).cell? ⟨rb, 0, none⟩ = some (.int .i64 rs.length) := by rw [HR1.out.cell]; rfl
  have hrc : ((rs.length : Int) < 128) = False := by simp; omega
  have HL := Lib.hid hl
  have hsib := fun w' (h : RootAt w' x b0 bs xr) => siblings_some x b0 bs xr k w' h hk (by omega)
  rw [hsl, show pgPtr none = .pointer none from rfl] at hsib
  rw [hsr, show pgPtr (some rb) = .pointer (some ⟨rb, 0, none⟩) from rfl] at hsib
  have HS := Lib.hid hsib
  clear hsib hsl ht hq ht1 hc1 hl hx hrp hsr
  go_enter Tryd.func73, Tryd.ntmps73
  go_wp2_with (first | (go_at_call 102; refine (HS.out _ HX1.out).mono ?_; rintro y w' ⟨rfl, rfl⟩) | (go_at_call 105; refine (split_rootS t q x b0 bs _ k rb rs _ _ i es _ _ e c fi la r _ _ HQ1.out HT1.out htq hi HL.out c0 c1 HX1.out hk hbs hxt hxq HR1.out hrt hrq hxr).mono ?_; rintro y w2 ⟨rfl, nb, xs, hh, hrx, hnp, hc2⟩))
  first | go_end0 | refine bodyPost_ret (results_none rfl _ _ _) rfl ?_
  obtain ⟨h1, h2, h3⟩ := hh
  have hs := HC1.out.size
  exact ⟨rfl, nb, xs, ⟨by omega, h2, h3⟩, hrx, hnp, (HC1.out.mono (T := fun b => (b = t ∨ b = q ∨ b = rb) ∨ b = x) (fun k _ h => .inl (.inl h))).next hc2 (fun k _ h => h)⟩

set_option maxRecDepth 100000 in
set_option maxHeartbeats 1000000 in
theorem ov_full_full_any (t q x b0 k : Nat) (bs : List Nat) (es : List XE) (sq xr : List Value) (pq : Value) (e : XE) (c : Int) (fi la r : Value) (ver : Int) (w : World) (i : Nat) (lb : Nat) (ls : List XE) (sl : List Value) (nl pl : Value) (rb : Nat) (rs : List XE) (sr : List Value) (nr : Value)
    (hq : PageAt w q es sq (.pointer (some ⟨rb, 0, none⟩)) pq) (ht : TreeW G w t c fi la r ver) (hx : RootAt w x b0 bs xr) (hk : k ≤ bs.length) (hbs : bs.length ≤ 250) (hl : es.length = 128) (c0 : 0 ≤ c) (c1 : c ≤ 2147483646) (hsl : sibL (b0 :: bs) k = some lb) (hlp : PageAt w lb ls sl nl pl) (hll : ls.length = 128) (hsr : sibR (b0 :: bs) k = some rb) (hrp : PageAt w rb rs sr nr (.pointer (some ⟨q, 0, none⟩))) (hrq : ¬ rb = q) (hrl : rs.length = 128) (hi : i ≤ 128) :
    Calls Tryd.prog 73 #[.pointer (some ⟨t, 0, none⟩), .pointer (some ⟨x, 0, none⟩), .pointer (some ⟨q, 0, none⟩), .int .i64 k, .int .i64 i, .slice e.A e.m e.p, .slice e.B e.n e.q] w
      (fun y w' => y = .returned (.tuple #[]) ∧ ∃ nb s, Halves G w w' t q es i e (.pointer (some ⟨rb, 0, none⟩)) pq c fi nb la r ∧ RootAt w' x b0 (bs.take k ++ nb :: bs.drop k) s ∧ PageAt w' rb rs sr nr (.pointer (some ⟨nb, 0, none⟩)) ∧ Chg (fun b => (b = t ∨ b = q ∨ b = rb) ∨ b = x) w w') := by
  have hqt := tag_ne hq.heap ht (by decide)
  have hxt := tag_ne hx.heap ht (by decide)
  have hxq := tag_ne hx.heap hq.heap (by decide)
  have htq : ¬ t = q := fun h => hqt h.symm
  have hlt := tag_ne hlp.heap ht (by decide)
  have hrt := tag_ne hrp.heap ht (by decide)
  have hxr := tag_ne hx.heap hrp.heap (by decide)
  obtain ⟨ht1, hc1⟩ := over_start ht
  have ct4 : w.cell? ⟨t, 5, none⟩ = some (.int .i64 ver) := cell_of_heap ht 5
  have ft4 : w.frozen? ⟨t, 5, none⟩ = false := free_of_heap ht 5
  have lt := lt_of_heap ht
  have HT1 := Lib.hid ht1
  have HC1 := Lib.hid hc1
  have HQ1 := Lib.hid (hq.chg hc1 hqt)
  have HX1 := Lib.hid (hx.chg hc1 hxt)
  have HL1 := Lib.hid (hlp.chg hc1 hlt)
  have cl0 : (w.setCell ⟨t, 5, none⟩ (.int .i64 (wrap64 (ver + 1)))).cell? ⟨lb, 0, none⟩ = some (.int .i64 ls.length) := by rw [HL1.out.cell]; rfl
  have hlc : ((ls.length : Int) < 128) = False := by simp; omega
  have HR1 := Lib.hid (hrp.chg hc1 hrt)
  have cr0 : (w.setCell ⟨t, 5, none⟩ (.int .i64 (wrap64 (ver + 1)))).cell? ⟨rb, 0, none⟩ = some (.int .i64 rs.length) := by rw [HR1.out.cell]; rfl
  have hrc : ((rs.length : Int) < 128) = False := by simp; omega
  have HL := Lib.hid hl
  have hsib := fun w' (h : RootAt w' x b0 bs xr) => siblings_some x b0 bs xr k w' h hk (by omega)
  rw [hsl, show pgPtr (some lb) = .pointer (some ⟨lb, 0, none⟩) from rfl] at hsib
  rw [hsr, show pgPtr (some rb) = .pointer (some ⟨rb, 0, none⟩) from rfl] at hsib
  have HS := Lib.hid hsib
  clear hsib hsl ht hq ht1 hc1 hl hx hlp hrp hsr
  go_enter Tryd.func73, Tryd.ntmps73
  go_wp2_with (first | (go_at_call 102; refine (HS.out _ HX1.out).mono ?_; rintro y w' ⟨rfl, rfl⟩) | (go_at_call 105; refine (split_rootS t q x b0 bs _ k rb rs _ _ i es _ _ e c fi la r _ _ HQ1.out HT1.out htq hi HL.out c0 c1 HX1.out hk hbs hxt hxq HR1.out hrt hrq hxr).mono ?_; rintro y w2 ⟨rfl, nb, xs, hh, hrx, hnp, hc2⟩))
  first | go_end0 | refine bodyPost_ret (results_none rfl _ _ _) rfl ?_
  obtain ⟨h1, h2, h3⟩ := hh
  have hs := HC1.out.size
  exact ⟨rfl, nb, xs, ⟨by omega, h2, h3⟩, hrx, hnp, (HC1.out.mono (T := fun b => (b = t ∨ b = q ∨ b = rb) ∨ b = x) (fun k _ h => .inl (.inl h))).next hc2 (fun k _ h => h)⟩

set_option maxRecDepth 100000 in
set_option maxHeartbeats 1000000 in
theorem ov_full_none_any (t q x b0 k : Nat) (bs : List Nat) (es : List XE) (sq xr : List Value) (pq : Value) (e : XE) (c : Int) (fi la r : Value) (ver : Int) (w : World) (i : Nat) (lb : Nat) (ls : List XE) (sl : List Value) (nl pl : Value)
    (hq : PageAt w q es sq (.pointer none) pq) (ht : TreeW G w t c fi la r ver) (hx : RootAt w x b0 bs xr) (hk : k ≤ bs.length) (hbs : bs.length ≤ 250) (hl : es.length = 128) (c0 : 0 ≤ c) (c1 : c ≤ 2147483646) (hsl : sibL (b0 :: bs) k = some lb) (hlp : PageAt w lb ls sl nl pl) (hll : ls.length = 128) (hsr : sibR (b0 :: bs) k = none) (hi : i ≤ 128) :
    Calls Tryd.prog 73 #[.pointer (some ⟨t, 0, none⟩), .pointer (some ⟨x, 0, none⟩), .pointer (some ⟨q, 0, none⟩), .int .i64 k, .int .i64 i, .slice e.A e.m e.p, .slice e.B e.n e.q] w
      (fun y w' => y = .returned (.tuple #[]) ∧ ∃ nb s, Halves G w w' t q es i e (.pointer none) pq c fi nb (.pointer (some ⟨nb, 0, none⟩)) r ∧ RootAt w' x b0 (bs.take k ++ nb :: bs.drop k) s ∧ Chg (fun b => (b = t ∨ b = q) ∨ b = x) w w') := by
  have hqt := tag_ne hq.heap ht (by decide)
  have hxt := tag_ne hx.heap ht (by decide)
  have hxq := tag_ne hx.heap hq.heap (by decide)
  have htq : ¬ t = q := fun h => hqt h.symm
  have hlt := tag_ne hlp.heap ht (by decide)
  obtain ⟨ht1, hc1⟩ := over_start ht
  have ct4 : w.cell? ⟨t, 5, none⟩ = some (.int .i64 ver) := cell_of_heap ht 5
  have ft4 : w.frozen? ⟨t, 5, none⟩ = false := free_of_heap ht 5
  have lt := lt_of_heap ht
  have HT1 := Lib.hid ht1
  have HC1 := Lib.hid hc1
  have HQ1 := Lib.hid (hq.chg hc1 hqt)
  have HX1 := Lib.hid (hx.chg hc1 hxt)
  have HL1 := Lib.hid (hlp.chg hc1 hlt)
  have cl0 : (w.setCell ⟨t, 5, none⟩ (.int .i64 (wrap64 (ver + 1)))).cell? ⟨lb, 0, none⟩ = some (.int .i64 ls.length) := by rw [HL1.out.cell]; rfl
  have hlc : ((ls.length : Int) < 128) = False := by simp; omega
  have HL := Lib.hid hl
  have hsib := fun w' (h : RootAt w' x b0 bs xr) => siblings_some x b0 bs xr k w' h hk (by omega)
  rw [hsl, show pgPtr (some lb) = .pointer (some ⟨lb, 0, none⟩) from rfl] at hsib
  rw [hsr, show pgPtr none = .pointer none from rfl] at hsib
  have HS := Lib.hid hsib
  clear hsib hsl ht hq ht1 hc1 hl hx hlp hsr
  go_enter Tryd.func73, Tryd.ntmps73
  go_wp2_with (first | (go_at_call 102; refine (HS.out _ HX1.out).mono ?_; rintro y w' ⟨rfl, rfl⟩) | (go_at_call 105; refine (split_rootN t q x b0 bs _ k i es _ _ e c fi la r _ _ HQ1.out HT1.out htq hi HL.out c0 c1 HX1.out hk hbs hxt hxq).mono ?_; rintro y w2 ⟨rfl, nb, xs, hh, hrx, hc2⟩))
  first | go_end0 | refine bodyPost_ret (results_none rfl _ _ _) rfl ?_
  obtain ⟨h1, h2, h3⟩ := hh
  have hs := HC1.out.size
  exact ⟨rfl, nb, xs, ⟨by omega, h2, h3⟩, hrx, (HC1.out.mono (T := fun b => (b = t ∨ b = q) ∨ b = x) (fun k _ h => .inl (.inl h))).next hc2 (fun k _ h => h)⟩

end Go.Proofs.YtffgkocokkhahaaDoor

/- (*tree).overflow under a root: the tree that comes of it. -/
namespace Go.Proofs.YtffgkocokkhahaaDoor
open Go.RowKit
variable {G : Value}

theorem hdp_blocks {P Q : List Pg} (h : Blocks P = Blocks Q) (nx : Value) : hdp P nx = hdp Q nx := by
  cases P with
  | nil => cases Q with
    | nil => rfl
    | cons q Q => simp [Blocks] at h
  | cons p P => cases Q with
    | nil => simp [Blocks] at h
    | cons q Q =>
      have : p.1 = q.1 := by simp [Blocks] at h; exact h.1
      simp [hdp, this]
theorem lastp_blocks : ∀ {P Q : List Pg} (_ : Blocks P = Blocks Q) (pv : Value), lastp pv P = lastp pv Q
  | [], [], _, _ => rfl
  | [], _ :: _, h, _ => by simp [Blocks] at h
  | _ :: _, [], h, _ => by simp [Blocks] at h
  | p :: P, q :: Q, h, pv => by
    have h1 : p.1 = q.1 := by simp [Blocks] at h; exact h.1
    have h2 : Blocks P = Blocks Q := by simp [Blocks] at h ⊢; exact h.2
    show lastp (ptr p.1) P = lastp (ptr q.1) Q
    rw [h1]
    exact lastp_blocks h2 _

theorem blocks_append (A B : List Pg) : Blocks (A ++ B) = Blocks A ++ Blocks B := by simp [Blocks]
theorem blocks_cons (p : Pg) (B : List Pg) : Blocks (p :: B) = p.1 :: Blocks B := rfl
theorem mem_blocks {p : Pg} {A : List Pg} (h : p ∈ A) : p.1 ∈ Blocks A := List.mem_map_of_mem h

theorem ents_le : ∀ {P : List Pg}, (∀ p ∈ P, 64 ≤ p.2.length ∧ p.2.length ≤ 128) → (ents P).length ≤ P.length * 128
  | [], _ => by simp [ents]
  | p :: P, h => by
    rw [ents_cons, List.length_append, List.length_cons, Nat.succ_mul]
    have h1 := (h p (by simp)).2
    have h2 := ents_le (P := P) (fun q hq => h q (by simp [hq]))
    omega

theorem Rooted.ne {w : World} {t x : Nat} {P : List Pg} {c : Int} (h : Rooted G w t x P c) : ¬ x = t ∧ ∀ p ∈ P, ¬ p.1 = x ∧ ¬ p.1 = t := by
  obtain ⟨_, ht⟩ := h.tree
  obtain ⟨_, _, _, _, hx⟩ := h.root
  refine ⟨tag_ne hx.heap ht (by decide), fun p hp => ?_⟩
  obtain ⟨_, _, _, hq⟩ := chain_page h.chain p hp
  exact ⟨tag_ne hq.heap hx.heap (by decide), tag_ne hq.heap ht (by decide)⟩

/-- The same blocks, other entries. -/
theorem Rooted.re {w w' : World} {t x : Nat} {P P' : List Pg} {c c' : Int} {S : Nat → Prop} (h : Rooted G w t x P c) (hB : Blocks P' = Blocks P)
    (ht : ∃ ver, TreeW G w' t c' (hdp P (.pointer none)) (lastp (.pointer none) P) (.iface 126 (ptr x)) ver) (hch : Chain w' (.pointer none) P' (.pointer none))
    (hs : ∀ p ∈ P', 64 ≤ p.2.length ∧ p.2.length ≤ 128) (hc : Chg S w w') (hn : ¬ S x) : Rooted G w' t x P' c' := by
  obtain ⟨b0, bs, xr, h1, h2⟩ := h.root
  refine ⟨by rw [hdp_blocks hB, lastp_blocks hB]; exact ht, ⟨b0, bs, xr, by rw [hB]; exact h1, h2.chg hc hn⟩, hch, hs, by rw [hB]; exact h.nodup, ?_⟩
  have := congrArg List.length hB
  simp [Blocks] at this
  rw [this]
  exact h.two

theorem grow_many {t x : Nat} {P : List Pg} {L : List XE} {S : Nat → Prop} {w w' : World} (h : Rooted G w' t x P (ents P).length) (hL : ents P = L) (hc : Chg S w w') (hS : ∀ k, ((k = t ∨ k = x) ∨ k ∈ Blocks P) → S k ∨ w.heap.size ≤ k) :
    GrowP G t L S w (.returned (.tuple #[])) w' := by
  subst hL
  exact ⟨rfl, _, .many h, hc, hS⟩

/-- Two neighbours have changed. -/
theorem chain_two {w w' : World} {A B : List Pg} {a b : Nat} {ea eb ea' eb' : List XE} {S : Nat → Prop} (h : Chain w (.pointer none) (A ++ (a, ea) :: (b, eb) :: B) (.pointer none))
    (hc : Chg S w w') (hA : ∀ p ∈ A, ¬ S p.1) (hB : ∀ p ∈ B, ¬ S p.1) (h1 : ∃ r, PageAt w' a ea' r (ptr b) (lastp (.pointer none) A)) (h2 : ∃ r, PageAt w' b eb' r (hdp B (.pointer none)) (ptr a)) :
    Chain w' (.pointer none) (A ++ (a, ea') :: (b, eb') :: B) (.pointer none) := by
  rw [chain_append] at h ⊢
  obtain ⟨g1, _, _, g4⟩ := h
  exact ⟨chain_chg g1 hc hA, h1, h2, chain_chg g4 hc hB⟩

theorem chain_one {w w' : World} {A B : List Pg} {a : Nat} {ea ea' : List XE} {S : Nat → Prop} (h : Chain w (.pointer none) (A ++ (a, ea) :: B) (.pointer none))
    (hc : Chg S w w') (hA : ∀ p ∈ A, ¬ S p.1) (hB : ∀ p ∈ B, ¬ S p.1) (h1 : ∃ r, PageAt w' a ea' r (hdp B (.pointer none)) (lastp (.pointer none) A)) :
    Chain w' (.pointer none) (A ++ (a, ea') :: B) (.pointer none) := by
  rw [chain_append] at h ⊢
  obtain ⟨g1, _, g4⟩ := h
  exact ⟨chain_chg g1 hc hA, h1, chain_chg g4 hc hB⟩

/-- Neither a page of A nor one of B. -/
theorem nodup_mid {A B : List Pg} {q : Nat} {es : List XE} (h : (Blocks (A ++ (q, es) :: B)).Nodup) : (∀ p ∈ A, ¬ p.1 = q) ∧ (∀ p ∈ B, ¬ p.1 = q) ∧ ∀ a ∈ A, ∀ b ∈ B, ¬ a.1 = b.1 := by
  rw [blocks_append, blocks_cons] at h
  obtain ⟨h1, h2, h3⟩ := List.nodup_append.1 h
  obtain ⟨h4, h5⟩ := List.nodup_cons.1 h2
  exact ⟨fun p hp he => h3 _ (mem_blocks hp) _ (by simp) he, fun p hp he => h4 (by have := mem_blocks hp; rw [he] at this; exact this), fun a ha b hb he => h3 _ (mem_blocks ha) _ (by simp; exact .inr (mem_blocks hb)) he⟩

theorem sibL_last (A B : List Nat) (l q : Nat) : sibL (A ++ [l] ++ q :: B) (A.length + 1) = some l := by
  show (A ++ [l] ++ q :: B)[A.length]? = some l
  simp
theorem sibR_at (A B : List Nat) (q : Nat) : sibR (A ++ q :: B) A.length = B[0]? := by
  unfold sibR
  rw [List.getElem?_append_right (by omega), show A.length + 1 - A.length = 1 by omega]
  rfl

theorem take_drop_one {es : List XE} {i : Nat} {e : XE} (hi : 1 ≤ i) (hl : i ≤ es.length) : es.take 1 ++ ((es.drop 1).take (i - 1) ++ e :: (es.drop 1).drop (i - 1)) = es.take i ++ e :: es.drop i := by
  obtain ⟨j, rfl⟩ : ∃ j, i = 1 + j := ⟨i - 1, by omega⟩
  rw [show 1 + j - 1 = j by omega, List.drop_drop, ← List.append_assoc, ← List.take_add]
theorem take_last {es : List XE} {i : Nat} {e : XE} (hi : i < 128) (hl : es.length = 128) : (es.take 127).take i ++ e :: (es.take 127).drop i ++ es.drop 127 = es.take i ++ e :: es.drop i := by
  rw [List.take_take, Nat.min_eq_left (by omega), List.append_assoc, List.cons_append]
  congr 2
  have : es.drop i = (es.take 127).drop i ++ es.drop 127 := by
    conv => lhs; rw [← List.take_append_drop 127 es]
    rw [List.drop_append, List.length_take, show i - min 127 es.length = 0 by omega]
    rfl
  exact this.symm

/-- Where the page ahead has no room. -/
theorem over_rest (t x q i : Nat) (A B : List Pg) (es : List XE) (e : XE) (w : World) (h : Rooted G w t x (A ++ (q, es) :: B) (ents (A ++ (q, es) :: B)).length) (hl : es.length = 128) (hi : i ≤ 128) (b0 : Nat) (bs : List Nat)
    (hbl2 : b0 :: bs = Blocks A ++ q :: Blocks B) (sq : List Value) (hq : PageAt w q es sq (hdp B (.pointer none)) (lastp (.pointer none) A))
    {arg : Array Value}
    (Hlt : ∀ rb rs sr nr pr, sibR (b0 :: bs) A.length = some rb → PageAt w rb rs sr nr pr → ¬ rb = q → rs.length < 128 → i < 128 → Calls Tryd.prog 73 arg w (fun y w' => y = .returned (.tuple #[]) ∧
      (∃ s, PageAt w' q ((es.take 127).take i ++ e :: (es.take 127).drop i) s (hdp B (.pointer none)) (lastp (.pointer none) A)) ∧ (∃ s, PageAt w' rb (es.drop 127 ++ rs) s nr pr) ∧
      (∃ v, TreeW G w' t ((ents (A ++ (q, es) :: B)).length + 1) (hdp (A ++ (q, es) :: B) (.pointer none)) (lastp (.pointer none) (A ++ (q, es) :: B)) (.iface 126 (ptr x)) v) ∧ Chg (fun b => b = t ∨ b = q ∨ b = rb) w w'))
    (Heq : ∀ rb rs sr nr pr, sibR (b0 :: bs) A.length = some rb → PageAt w rb rs sr nr pr → rs.length < 128 → i = 128 → Calls Tryd.prog 73 arg w (fun y w' => y = .returned (.tuple #[]) ∧
      (∃ s, PageAt w' rb (e :: rs) s nr pr) ∧
      (∃ v, TreeW G w' t ((ents (A ++ (q, es) :: B)).length + 1) (hdp (A ++ (q, es) :: B) (.pointer none)) (lastp (.pointer none) (A ++ (q, es) :: B)) (.iface 126 (ptr x)) v) ∧ Chg (fun b => b = t ∨ b = rb) w w'))
    (Hfull : ∀ rb rs sr nr, sibR (b0 :: bs) A.length = some rb → PageAt w q es sq (.pointer (some ⟨rb, 0, none⟩)) (lastp (.pointer none) A) → PageAt w rb rs sr nr (.pointer (some ⟨q, 0, none⟩)) → ¬ rb = q → rs.length = 128 → Calls Tryd.prog 73 arg w (fun y w' => y = .returned (.tuple #[]) ∧
      ∃ nb s, Halves G w w' t q es i e (.pointer (some ⟨rb, 0, none⟩)) (lastp (.pointer none) A) (ents (A ++ (q, es) :: B)).length (hdp (A ++ (q, es) :: B) (.pointer none)) nb (lastp (.pointer none) (A ++ (q, es) :: B)) (.iface 126 (ptr x)) ∧
      RootAt w' x b0 (bs.take A.length ++ nb :: bs.drop A.length) s ∧ PageAt w' rb rs sr nr (.pointer (some ⟨nb, 0, none⟩)) ∧ Chg (fun b => (b = t ∨ b = q ∨ b = rb) ∨ b = x) w w'))
    (Hnone : B = [] → sibR (b0 :: bs) A.length = none → PageAt w q es sq (.pointer none) (lastp (.pointer none) A) → Calls Tryd.prog 73 arg w (fun y w' => y = .returned (.tuple #[]) ∧
      ∃ nb s, Halves G w w' t q es i e (.pointer none) (lastp (.pointer none) A) (ents (A ++ (q, es) :: B)).length (hdp (A ++ (q, es) :: B) (.pointer none)) nb (.pointer (some ⟨nb, 0, none⟩)) (.iface 126 (ptr x)) ∧
      RootAt w' x b0 (bs.take A.length ++ nb :: bs.drop A.length) s ∧ Chg (fun b => (b = t ∨ b = q) ∨ b = x) w w')) :
    Calls Tryd.prog 73 arg w (GrowP G t (ents A ++ (es.take i ++ e :: es.drop i) ++ ents B) (fun k => (k = t ∨ k = x) ∨ k ∈ Blocks (A ++ (q, es) :: B)) w) := by
  obtain ⟨hxt, hne⟩ := h.ne
  obtain ⟨nA, nB, nAB⟩ := nodup_mid h.nodup
  have hch := h.chain
  have hsz := h.sizes
  have hAl : (Blocks A).length = A.length := by simp [Blocks]
  have hsr : sibR (b0 :: bs) A.length = (Blocks B)[0]? := by rw [hbl2, ← hAl]; exact sibR_at _ _ _
  have hcount : ((ents A ++ (es.take i ++ e :: es.drop i) ++ ents B).length : Int) = (ents (A ++ (q, es) :: B)).length + 1 := by
    rw [ents_append, ents_cons]
    simp [List.length_take]
    omega
  have pA : ∀ p ∈ A, ¬ p.1 = x ∧ ¬ p.1 = t := fun p hp => hne p (by simp [hp])
  have pB : ∀ p ∈ B, ¬ p.1 = x ∧ ¬ p.1 = t := fun p hp => hne p (by simp [hp])
  have hqx := hne (q, es) (by simp)
  have hchA := ((chain_append _ _ _ _).1 hch).1
  have hch0 := ((chain_append _ _ _ _).1 hch).2.2
  have hltA := chain_lt hchA
  have hltB := chain_lt hch0
  have hBk : ∀ nb : Nat, b0 :: (bs.take A.length ++ nb :: bs.drop A.length) = Blocks A ++ q :: nb :: Blocks B := fun nb => by
    have e1 : b0 :: bs.take A.length = (b0 :: bs).take (A.length + 1) := rfl
    have e2 : bs.drop A.length = (b0 :: bs).drop (A.length + 1) := rfl
    have e3 : Blocks A ++ q :: Blocks B = (Blocks A ++ [q]) ++ Blocks B := by simp
    have e4 : (Blocks A ++ [q]).length = A.length + 1 := by simp [Blocks]
    rw [← List.cons_append, e1, e2, hbl2, e3, List.take_left' e4, List.drop_left' e4]
    simp
  cases B with
  | nil =>
    refine (Hnone rfl (by rw [hsr]; rfl) hq).mono ?_
    rintro y w' ⟨rfl, nb, s, ⟨hnew, hver, l1, l2, r1, r2, hl12, a1, a2, a3, a4, hp1, hp2⟩, hx', hc⟩
    have hE : ents (A ++ [(q, l1), (nb, l2)]) = ents A ++ (es.take i ++ e :: es.drop i) ++ ents [] := by rw [← hl12]; simp [ents]
    have hnbA : ∀ p ∈ A, ¬ p.1 = nb := fun p hp => by have := hltA p hp; omega
    have hqn : ¬ q = nb := by have := hq.lt; omega
    have hqh : hdp (A ++ [(q, l1), (nb, l2)]) (.pointer none) = hdp (A ++ [(q, es)]) (.pointer none) := by cases A <;> rfl
    have hql : lastp (.pointer none) (A ++ [(q, l1), (nb, l2)]) = ptr nb := by rw [lastp_append]; rfl
    refine grow_many (P := A ++ [(q, l1), (nb, l2)]) (x := x) ⟨?_, ⟨b0, _, s, ?_, hx'⟩, ?_, ?_, ?_, by simp⟩ hE (hc.mono (fun k _ hk => ?_)) (fun k hk => ?_)
    · rw [hE, hqh, hql, hcount]
      exact hver
    · rw [hBk nb, blocks_append]
      rfl
    · rw [chain_append]
      refine ⟨chain_chg hchA hc (fun p hp => ?_), ⟨r1, hp1⟩, ⟨r2, hp2⟩, trivial⟩
      rintro ((g | g) | g)
      · exact (pA p hp).2 g
      · exact nA p hp g
      · exact (pA p hp).1 g
    · intro p hp
      rcases List.mem_append.1 hp with hp | hp
      · exact hsz p (by simp [hp])
      · simp at hp
        rcases hp with rfl | rfl
        · exact ⟨a1, by show l1.length ≤ 128; omega⟩
        · exact ⟨a3, by show l2.length ≤ 128; omega⟩
    · have hnd := h.nodup
      rw [blocks_append] at hnd ⊢
      obtain ⟨n1, n2, n3⟩ := List.nodup_append.1 hnd
      refine List.nodup_append.2 ⟨n1, by simp [Blocks, hqn], fun a ha b hb => ?_⟩
      simp [Blocks] at hb
      rcases hb with rfl | rfl
      · exact n3 a ha _ (by simp [Blocks])
      · rintro rfl
        obtain ⟨p, hp, rfl⟩ := List.mem_map.1 ha
        exact hnbA p hp rfl
    · rcases hk with (g | g) | g
      · exact .inl (.inl g)
      · exact .inr (by rw [g]; simp [Blocks])
      · exact .inl (.inr g)
    · rcases hk with g | g
      · exact .inl (.inl g)
      · simp [Blocks] at g
        rcases g with g | g | g
        · exact .inl (.inr (by simp [Blocks]; exact .inl g))
        · exact .inl (.inr (by simp [Blocks, g]))
        · exact .inr (by omega)
  | cons b B =>
    obtain ⟨rb, rs⟩ := b
    obtain ⟨⟨sr, hrp⟩, chB⟩ := hch0
    have hsr' : sibR (b0 :: bs) A.length = some rb := by rw [hsr]; rfl
    have hrq : ¬ rb = q := nB (rb, rs) (by simp)
    have hrs : 64 ≤ rs.length ∧ rs.length ≤ 128 := hsz (rb, rs) (by simp)
    have hnr : ∀ p ∈ B, ¬ p.1 = rb := by
      have hnd := h.nodup
      rw [show A ++ (q, es) :: (rb, rs) :: B = (A ++ [(q, es)]) ++ (rb, rs) :: B by simp] at hnd
      exact (nodup_mid hnd).2.1
    have hAr : ∀ p ∈ A, ¬ p.1 = rb := fun p hp => nAB p hp (rb, rs) (by simp)
    have hrx := pB (rb, rs) (by simp)
    rcases Nat.lt_or_ge rs.length 128 with hrl | hrl
    · rcases Nat.lt_or_ge i 128 with hi2 | hi2
      · refine (Hlt rb rs sr _ _ hsr' hrp hrq hrl hi2).mono ?_
        rintro y w' ⟨rfl, h1, h2, h3, hc⟩
        have hE : ents (A ++ (q, (es.take 127).take i ++ e :: (es.take 127).drop i) :: (rb, es.drop 127 ++ rs) :: B) = ents A ++ (es.take i ++ e :: es.drop i) ++ ents ((rb, rs) :: B) := by
          rw [← take_last hi2 hl]
          simp [ents]
        have hB' : Blocks (A ++ (q, (es.take 127).take i ++ e :: (es.take 127).drop i) :: (rb, es.drop 127 ++ rs) :: B) = Blocks (A ++ (q, es) :: (rb, rs) :: B) := by simp [Blocks]
        refine grow_many (P := A ++ (q, (es.take 127).take i ++ e :: (es.take 127).drop i) :: (rb, es.drop 127 ++ rs) :: B) (x := x) ?_ hE (hc.mono (fun k _ hk => ?_)) (fun k hk => .inl (by rw [hB'] at hk; exact hk))
        · refine h.re hB' (by rw [hE, hcount]; exact h3) (chain_two hch hc (fun p hp => ?_) (fun p hp => ?_) h1 h2) (fun p hp => ?_) hc (by rintro (g | g | g); exact hxt g; exact hqx.1 g.symm; exact hrx.1 g.symm)
          · rintro (g | g | g)
            · exact (pA p hp).2 g
            · exact nA p hp g
            · exact hAr p hp g
          · rintro (g | g | g)
            · exact (pB p (by simp [hp])).2 g
            · exact nB p (by simp [hp]) g
            · exact hnr p hp g
          · rcases List.mem_append.1 hp with hp | hp
            · exact hsz p (by simp [hp])
            · rcases List.mem_cons.1 hp with rfl | hp
              · simp
                omega
              · rcases List.mem_cons.1 hp with rfl | hp
                · simp
                  omega
                · exact hsz p (by simp [hp])
        · rcases hk with g | g | g
          · exact .inl (.inl g)
          · exact .inr (by rw [g]; simp [Blocks])
          · exact .inr (by rw [g]; simp [Blocks])
      · have hi3 : i = 128 := by omega
        refine (Heq rb rs sr _ _ hsr' hrp hrl hi3).mono ?_
        rintro y w' ⟨rfl, h2, h3, hc⟩
        have hE : ents (A ++ (q, es) :: (rb, e :: rs) :: B) = ents A ++ (es.take i ++ e :: es.drop i) ++ ents ((rb, rs) :: B) := by
          rw [List.take_of_length_le (by omega), List.drop_of_length_le (by omega)]
          simp [ents]
        have hB' : Blocks (A ++ (q, es) :: (rb, e :: rs) :: B) = Blocks (A ++ (q, es) :: (rb, rs) :: B) := by simp [Blocks]
        have hq' : PageAt w' q es sq (ptr rb) (lastp (.pointer none) A) := hq.chg hc (by rintro (g | g); exact hqx.2 g; exact hrq g.symm)
        refine grow_many (P := A ++ (q, es) :: (rb, e :: rs) :: B) (x := x) ?_ hE (hc.mono (fun k _ hk => ?_)) (fun k hk => .inl (by rw [hB'] at hk; exact hk))
        · refine h.re hB' (by rw [hE, hcount]; exact h3) (chain_two hch hc (fun p hp => ?_) (fun p hp => ?_) ⟨sq, hq'⟩ h2) (fun p hp => ?_) hc (by rintro (g | g); exact hxt g; exact hrx.1 g.symm)
          · rintro (g | g)
            · exact (pA p hp).2 g
            · exact hAr p hp g
          · rintro (g | g)
            · exact (pB p (by simp [hp])).2 g
            · exact hnr p hp g
          · rcases List.mem_append.1 hp with hp | hp
            · exact hsz p (by simp [hp])
            · rcases List.mem_cons.1 hp with rfl | hp
              · exact hsz _ (by simp)
              · rcases List.mem_cons.1 hp with rfl | hp
                · simp
                  omega
                · exact hsz p (by simp [hp])
        · rcases hk with g | g
          · exact .inl (.inl g)
          · exact .inr (by rw [g]; simp [Blocks])
    · refine (Hfull rb rs sr _ hsr' hq hrp hrq (by omega)).mono ?_
      rintro y w' ⟨rfl, nb, s, ⟨hnew, hver, l1, l2, r1, r2, hl12, a1, a2, a3, a4, hp1, hp2⟩, hx', hrp', hc⟩
      have hE : ents (A ++ (q, l1) :: (nb, l2) :: (rb, rs) :: B) = ents A ++ (es.take i ++ e :: es.drop i) ++ ents ((rb, rs) :: B) := by rw [← hl12]; simp [ents]
      have hqh : hdp (A ++ (q, l1) :: (nb, l2) :: (rb, rs) :: B) (.pointer none) = hdp (A ++ (q, es) :: (rb, rs) :: B) (.pointer none) := by cases A <;> rfl
      have hql : lastp (.pointer none) (A ++ (q, l1) :: (nb, l2) :: (rb, rs) :: B) = lastp (.pointer none) (A ++ (q, es) :: (rb, rs) :: B) := by rw [lastp_append, lastp_append]; rfl
      have hnbA : ∀ p ∈ A, ¬ p.1 = nb := fun p hp => by have := hltA p hp; omega
      have hnbB : ∀ p ∈ ((rb, rs) :: B : List Pg), ¬ p.1 = nb := fun p hp => by have := hltB p hp; omega
      have hqn : ¬ q = nb := by have := hq.lt; omega
      refine grow_many (P := A ++ (q, l1) :: (nb, l2) :: (rb, rs) :: B) (x := x) ⟨?_, ⟨b0, _, s, ?_, hx'⟩, ?_, ?_, ?_, by simp; omega⟩ hE (hc.mono (fun k _ hk => ?_)) (fun k hk => ?_)
      · rw [hE, hqh, hql, hcount]
        exact hver
      · rw [hBk nb, blocks_append]
        rfl
      · rw [chain_append]
        refine ⟨chain_chg hchA hc (fun p hp => ?_), ⟨r1, hp1⟩, ⟨r2, hp2⟩, ⟨sr, hrp'⟩, chain_chg chB hc (fun p hp => ?_)⟩
        · rintro ((g | g | g) | g)
          · exact (pA p hp).2 g
          · exact nA p hp g
          · exact hAr p hp g
          · exact (pA p hp).1 g
        · rintro ((g | g | g) | g)
          · exact (pB p (by simp [hp])).2 g
          · exact nB p (by simp [hp]) g
          · exact hnr p hp g
          · exact (pB p (by simp [hp])).1 g
      · intro p hp
        rcases List.mem_append.1 hp with hp | hp
        · exact hsz p (by simp [hp])
        · rcases List.mem_cons.1 hp with rfl | hp
          · exact ⟨a1, by show l1.length ≤ 128; omega⟩
          · rcases List.mem_cons.1 hp with rfl | hp
            · exact ⟨a3, by show l2.length ≤ 128; omega⟩
            · exact hsz p (by simp; exact .inr (.inr (by simpa using hp)))
      · have hnd := h.nodup
        rw [blocks_append, blocks_cons] at hnd ⊢
        obtain ⟨n1, n2, n3⟩ := List.nodup_append.1 hnd
        obtain ⟨n4, n5⟩ := List.nodup_cons.1 n2
        rw [blocks_cons]
        refine List.nodup_append.2 ⟨n1, List.nodup_cons.2 ⟨?_, List.nodup_cons.2 ⟨?_, n5⟩⟩, fun a ha b hb => ?_⟩
        · intro hm
          rcases List.mem_cons.1 hm with hm | hm
          · exact hqn hm
          · exact n4 hm
        · intro hm
          obtain ⟨p, hp, hpe⟩ := List.mem_map.1 hm
          exact hnbB p hp hpe
        · rcases List.mem_cons.1 hb with rfl | hb
          · exact n3 a ha _ (by simp)
          · rcases List.mem_cons.1 hb with rfl | hb
            · rintro rfl
              obtain ⟨p, hp, rfl⟩ := List.mem_map.1 ha
              exact hnbA p hp rfl
            · exact n3 a ha b (by simp; exact .inr hb)
      · rcases hk with (g | g | g) | g
        · exact .inl (.inl g)
        · exact .inr (by rw [g]; simp [Blocks])
        · exact .inr (by rw [g]; simp [Blocks])
        · exact .inl (.inr g)
      · rcases hk with g | g
        · exact .inl (.inl g)
        · rw [blocks_append, blocks_cons, blocks_cons] at g
          rcases List.mem_append.1 g with g | g
          · exact .inl (.inr (by rw [blocks_append]; exact List.mem_append.2 (.inl g)))
          · rcases List.mem_cons.1 g with g | g
            · exact .inl (.inr (by rw [g]; simp [Blocks]))
            · rcases List.mem_cons.1 g with g | g
              · exact .inr (by omega)
              · exact .inl (.inr (by rw [blocks_append, blocks_cons]; exact List.mem_append.2 (.inr (List.mem_cons.2 (.inr g)))))

theorem over_root (t x q i : Nat) (A B : List Pg) (es : List XE) (e : XE) (w : World) (h : Rooted G w t x (A ++ (q, es) :: B) (ents (A ++ (q, es) :: B)).length) (hl : es.length = 128) (hi : i ≤ 128) (hi1 : A ≠ [] → 1 ≤ i)
    (hlen : (A ++ (q, es) :: B).length ≤ 200) :
    Calls Tryd.prog 73 #[.pointer (some ⟨t, 0, none⟩), .pointer (some ⟨x, 0, none⟩), .pointer (some ⟨q, 0, none⟩), .int .i64 A.length, .int .i64 i, .slice e.A e.m e.p, .slice e.B e.n e.q] w
      (GrowP G t (ents A ++ (es.take i ++ e :: es.drop i) ++ ents B) (fun k => (k = t ∨ k = x) ∨ k ∈ Blocks (A ++ (q, es) :: B)) w) := by
  obtain ⟨hxt, hne⟩ := h.ne
  obtain ⟨nA, nB, nAB⟩ := nodup_mid h.nodup
  obtain ⟨ver, ht⟩ := h.tree
  obtain ⟨b0, bs, xr, hbl, hx⟩ := h.root
  have hch := h.chain
  rw [chain_append] at hch
  obtain ⟨chA, ⟨sq, hq⟩, chB⟩ := hch
  have hsz := h.sizes
  have hlenb : bs.length = A.length + B.length := by
    have := congrArg List.length hbl
    simp [Blocks] at this
    omega
  have hcnt : (ents (A ++ (q, es) :: B)).length ≤ 25600 := by have := ents_le hsz; omega
  have hk : A.length ≤ bs.length := by omega
  have hbs : bs.length ≤ 250 := by simp at hlen; omega
  have hbl2 : b0 :: bs = Blocks A ++ q :: Blocks B := by rw [← hbl, blocks_append, blocks_cons]
  have hAl : (Blocks A).length = A.length := by simp [Blocks]
  have hsr : sibR (b0 :: bs) A.length = (Blocks B)[0]? := by rw [hbl2, ← hAl]; exact sibR_at _ _ _
  have hcount : ((ents A ++ (es.take i ++ e :: es.drop i) ++ ents B).length : Int) = (ents (A ++ (q, es) :: B)).length + 1 := by
    rw [ents_append, ents_cons]
    simp [List.length_take]
    omega
  have hq2 : 64 ≤ es.length ∧ es.length ≤ 128 := ⟨by omega, by omega⟩
  have pA : ∀ p ∈ A, ¬ p.1 = x ∧ ¬ p.1 = t := fun p hp => hne p (by simp [hp])
  have pB : ∀ p ∈ B, ¬ p.1 = x ∧ ¬ p.1 = t := fun p hp => hne p (by simp [hp])
  have hqx := hne (q, es) (by simp)
  -- the neighbour ahead
  rcases List.eq_nil_or_concat A with hA | ⟨A', ⟨lb, ls⟩, hA⟩
  · subst hA
    have hsl : sibL (b0 :: bs) ([] : List Pg).length = none := rfl
    refine over_rest t x q i [] B es e w h hl hi b0 bs hbl2 sq hq ?_ ?_ ?_ ?_
    · exact fun rb rs sr nr pr g1 g2 g3 g4 g5 => ov_none_room_lt t q x b0 _ bs es sq xr _ _ e _ _ _ _ ver w i rb rs sr nr pr hq ht hx hk hbs hl (by omega) (by omega) hsl g1 g2 g3 g4 g5
    · exact fun rb rs sr nr pr g1 g2 g4 g5 => ov_none_room_eq t q x b0 _ bs es sq xr _ _ e _ _ _ _ ver w i rb rs sr nr pr hq ht hx hk hbs hl (by omega) (by omega) hsl g1 g2 g4 g5
    · exact fun rb rs sr nr g1 g0 g2 g3 g4 => ov_none_full_any t q x b0 _ bs es sq xr _ e _ _ _ _ ver w i rb rs sr nr g0 ht hx hk hbs hl (by omega) (by omega) hsl g1 g2 g3 g4 hi
    · intro hB
      have := h.two
      rw [hB] at this
      simp at this
  · have hA' : A = A' ++ [(lb, ls)] := by simpa using hA
    subst hA'
    have hsl : sibL (b0 :: bs) (A' ++ [(lb, ls)]).length = some lb := by
      rw [hbl2, blocks_append, show (A' ++ [(lb, ls)]).length = (Blocks A').length + 1 by simp [Blocks]]
      exact sibL_last _ _ _ _
    rw [chain_append] at chA
    obtain ⟨chA', ⟨sl, hlp⟩, _⟩ := chA
    have hlq : ¬ lb = q := nA (lb, ls) (by simp)
    have hls : 64 ≤ ls.length ∧ ls.length ≤ 128 := hsz (lb, ls) (by simp)
    rcases Nat.lt_or_ge ls.length 128 with hll | hll
    · refine (ov_room_any_any t q x b0 _ bs es sq xr _ _ e _ _ _ _ ver w i lb ls sl _ _ hq ht hx hk hbs hl (by omega) (by omega) hsl hlp hlq hll hi (hi1 (by simp))).mono ?_
      rintro y w' ⟨rfl, h1, h2, h3, hc⟩
      have hS : ∀ p ∈ A', ¬ (p.1 = t ∨ p.1 = lb ∨ p.1 = q) := by
        intro p hp
        rintro (g | g | g)
        · exact (pA p (by simp [hp])).2 g
        · have hnd := h.nodup
          rw [List.append_assoc] at hnd
          exact (nodup_mid (A := A') (q := lb) (es := ls) (B := (q, es) :: B) (by simpa using hnd)).1 p hp g
        · exact nA p (by simp [hp]) g
      have hSB : ∀ p ∈ B, ¬ (p.1 = t ∨ p.1 = lb ∨ p.1 = q) := by
        intro p hp
        rintro (g | g | g)
        · exact (pB p hp).2 g
        · exact nAB (lb, ls) (by simp) p hp g.symm
        · exact nB p hp g
      have hE : ents (A' ++ (lb, ls ++ es.take 1) :: (q, (es.drop 1).take (i - 1) ++ e :: (es.drop 1).drop (i - 1)) :: B) = ents (A' ++ [(lb, ls)]) ++ (es.take i ++ e :: es.drop i) ++ ents B := by
        rw [← take_drop_one (hi1 (by simp)) (by omega)]
        simp [ents]
      have hB' : Blocks (A' ++ (lb, ls ++ es.take 1) :: (q, (es.drop 1).take (i - 1) ++ e :: (es.drop 1).drop (i - 1)) :: B) = Blocks (A' ++ [(lb, ls)] ++ (q, es) :: B) := by simp [Blocks]
      have hch2 : Chain w (.pointer none) (A' ++ (lb, ls) :: (q, es) :: B) (.pointer none) := by have := h.chain; rw [List.append_assoc] at this; exact this
      have hlast : lastp (.pointer none) (A' ++ [(lb, ls)]) = ptr lb := by rw [lastp_append]; rfl
      rw [hlast] at h2
      refine grow_many (P := A' ++ (lb, ls ++ es.take 1) :: (q, (es.drop 1).take (i - 1) ++ e :: (es.drop 1).drop (i - 1)) :: B) (x := x) ?_ hE (hc.mono (fun k _ hk => ?_)) (fun k hk => .inl (by rw [hB'] at hk; exact hk))
      · refine h.re hB' (by rw [hE, hcount]; exact h3) (chain_two hch2 hc hS hSB h1 h2) (fun p hp => ?_) hc (by rintro (g | g | g); exact hxt g; exact (hne (lb, ls) (by simp)).1 g.symm; exact hqx.1 g.symm)
        rcases List.mem_append.1 hp with hp | hp
        · exact hsz p (by simp [hp])
        · rcases List.mem_cons.1 hp with rfl | hp
          · simp
            omega
          · rcases List.mem_cons.1 hp with rfl | hp
            · have := hi1 (by simp)
              simp
              omega
            · exact hsz p (by simp [hp])
      · rcases hk with g | g | g
        · exact .inl (.inl g)
        · exact .inr (by rw [g]; simp [Blocks])
        · exact .inr (by rw [g]; simp [Blocks])
    · have hll2 : ls.length = 128 := by omega
      refine over_rest t x q i (A' ++ [(lb, ls)]) B es e w h hl hi b0 bs hbl2 sq hq ?_ ?_ ?_ ?_
      · exact fun rb rs sr nr pr g1 g2 g3 g4 g5 => ov_full_room_lt t q x b0 _ bs es sq xr _ _ e _ _ _ _ ver w i lb ls sl _ _ rb rs sr nr pr hq ht hx hk hbs hl (by omega) (by omega) hsl hlp hll2 g1 g2 g3 g4 g5
      · exact fun rb rs sr nr pr g1 g2 g4 g5 => ov_full_room_eq t q x b0 _ bs es sq xr _ _ e _ _ _ _ ver w i lb ls sl _ _ rb rs sr nr pr hq ht hx hk hbs hl (by omega) (by omega) hsl hlp hll2 g1 g2 g4 g5
      · exact fun rb rs sr nr g1 g0 g2 g3 g4 => ov_full_full_any t q x b0 _ bs es sq xr _ e _ _ _ _ ver w i lb ls sl _ _ rb rs sr nr g0 ht hx hk hbs hl (by omega) (by omega) hsl hlp hll2 g1 g2 g3 g4 hi
      · exact fun _ g1 g0 => ov_full_none_any t q x b0 _ bs es sq xr _ e _ _ _ _ ver w i lb ls sl _ _ g0 ht hx hk hbs hl (by omega) (by omega) hsl hlp hll2 g1 hi

end Go.Proofs.YtffgkocokkhahaaDoor
