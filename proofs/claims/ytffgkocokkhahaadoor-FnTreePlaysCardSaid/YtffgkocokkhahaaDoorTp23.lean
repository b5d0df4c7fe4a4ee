/-
  (*tree).Delete under a root. PRINTED BY wip/tpl/gen_yde.py. || (*tree).Delete whatever the tree. PRINTED BY wip/tpl/gen_yde.py. || (*tree).Set of a key that is there, whatever the tree.
-/
import Derived.Test.YtffgkocokkhahaaDoorTp22
import Derived.Test.YtffgkocokkhahaaDoorTp21

/- (*tree).Delete under a root. PRINTED BY wip/tpl/gen_yde.py. -/
namespace Go.Proofs.YtffgkocokkhahaaDoor
open Go.RowKit
variable {dsc : Bool} {G : Value}

theorem ents_erase {A B : List Pg} {q : Nat} {es : List XE} {i g : Nat} (hg : g = (ents A).length + i) (hi : i < es.length) : ents (A ++ (q, es.eraseIdx i) :: B) = (ents (A ++ (q, es) :: B)).eraseIdx g := by
  subst hg
  rw [ents_append, ents_append, ents_cons, ents_cons, List.eraseIdx_append_of_length_le (by omega), show (ents A).length + i - (ents A).length = i by omega, List.eraseIdx_append_of_lt_length hi]

theorem del_pre {w w' : World} {t x q : Nat} {A B : List Pg} {es es' : List XE} {c c' : Int} (h : Rooted G w t x (A ++ (q, es) :: B) c) (hp : ∃ s, PageAt w' q es' s (hdp B (.pointer none)) (lastp (.pointer none) A))
    (ht : ∃ v, TreeW G w' t c' (hdp (A ++ (q, es) :: B) (.pointer none)) (lastp (.pointer none) (A ++ (q, es) :: B)) (.iface 126 (ptr x)) v) (hc : Chg (fun k => k = t ∨ k = q) w w') : PreR G w' t x (A ++ (q, es') :: B) c' := by
  obtain ⟨hxt, hne⟩ := h.ne
  obtain ⟨nA, nB, _⟩ := nodup_mid h.nodup
  refine h.pre.re (by simp [Blocks]) ht (chain_one h.chain hc (fun p hp => ?_) (fun p hp => ?_) hp) hc (by rintro (e | e); exact hxt e; exact (hne (q, es) (by simp)).1 e.symm)
  · rintro (e | e)
    · exact (hne p (by simp [hp])).2 e
    · exact nA p hp e
  · rintro (e | e)
    · exact (hne p (by simp [hp])).2 e
    · exact nB p hp e

theorem del_big {w w' : World} {t x q i g : Nat} {A B : List Pg} {es : List XE} (h : Rooted G w t x (A ++ (q, es) :: B) (ents (A ++ (q, es) :: B)).length) (hg : g = (ents A).length + i) (hi : i < es.length) (hn : 65 ≤ es.length)
    (hp : ∃ s, PageAt w' q (es.eraseIdx i) s (hdp B (.pointer none)) (lastp (.pointer none) A)) (ht : ∃ v, TreeW G w' t ((ents (A ++ (q, es) :: B)).length - 1) (hdp (A ++ (q, es) :: B) (.pointer none)) (lastp (.pointer none) (A ++ (q, es) :: B)) (.iface 126 (ptr x)) v)
    (hc : Chg (fun k => k = t ∨ k = q) w w') : DelP G t ((ents (A ++ (q, es) :: B)).eraseIdx g) (fun k => (k = t ∨ k = x) ∨ k ∈ Blocks (A ++ (q, es) :: B)) true w (.returned (.bool true)) w' := by
  have hE := ents_erase (A := A) (B := B) (q := q) hg hi
  have hlt : (ents (A ++ (q, es) :: B)).length = (ents (A ++ (q, es.eraseIdx i) :: B)).length + 1 := by
    rw [ents_append, ents_append, ents_cons, ents_cons]
    simp only [List.length_append, List.length_eraseIdx_of_lt hi]
    omega
  have hc0 : ((ents (A ++ (q, es) :: B)).length : Int) - 1 = (ents (A ++ (q, es.eraseIdx i) :: B)).length := by omega
  rw [hc0] at ht
  have hR := (del_pre h hp ht hc).rooted (fun p hp => by
    rcases List.mem_append.1 hp with hp | hp
    · exact h.sizes p (by simp [hp])
    · rcases List.mem_cons.1 hp with rfl | hp
      · have := (h.sizes (q, es) (by simp)).2
        simp only [List.length_eraseIdx_of_lt hi] at this ⊢
        omega
      · exact h.sizes p (by simp [hp])) (by have := h.two; simpa using this)
  have hB : Blocks (A ++ (q, es.eraseIdx i) :: B) = Blocks (A ++ (q, es) :: B) := by simp [Blocks]
  have hat := TreeAt.many hR
  rw [hE, hB] at hat
  refine ⟨rfl, _, hat, hc.mono (fun k _ hk => ?_), fun k hk => .inl hk⟩
  rcases hk with hk | hk
  · exact .inl (.inl hk)
  · exact .inr (by rw [hk]; simp [Blocks])

theorem del_small {w w5 : World} {t x q i g : Nat} {A B : List Pg} {es : List XE} (h : Rooted G w t x (A ++ (q, es) :: B) (ents (A ++ (q, es) :: B)).length) (hlen : (A ++ (q, es) :: B).length ≤ 100) (hg : g = (ents A).length + i) (hi : i < es.length) (hn : es.length = 64)
    (hp : ∃ s, PageAt w5 q (es.eraseIdx i) s (hdp B (.pointer none)) (lastp (.pointer none) A)) (ht : ∃ v, TreeW G w5 t ((ents (A ++ (q, es) :: B)).length - 1) (hdp (A ++ (q, es) :: B) (.pointer none)) (lastp (.pointer none) (A ++ (q, es) :: B)) (.iface 126 (ptr x)) v)
    (hc : Chg (fun k => k = t ∨ k = q) w w5) :
    Calls Tryd.prog 77 #[.pointer (some ⟨t, 0, none⟩), .pointer (some ⟨x, 0, none⟩), .pointer (some ⟨q, 0, none⟩), .int .i64 A.length] w5
      (fun y w' => y = .returned (.tuple #[]) ∧ DelP G t ((ents (A ++ (q, es) :: B)).eraseIdx g) (fun k => (k = t ∨ k = x) ∨ k ∈ Blocks (A ++ (q, es) :: B)) true w (.returned (.bool true)) w') := by
  have hE := ents_erase (A := A) (B := B) (q := q) hg hi
  have hlt : (ents (A ++ (q, es) :: B)).length = (ents (A ++ (q, es.eraseIdx i) :: B)).length + 1 := by
    rw [ents_append, ents_append, ents_cons, ents_cons]
    simp only [List.length_append, List.length_eraseIdx_of_lt hi]
    omega
  have hc0 : ((ents (A ++ (q, es) :: B)).length : Int) - 1 = (ents (A ++ (q, es.eraseIdx i) :: B)).length := by omega
  rw [hc0] at ht
  have hB : Blocks (A ++ (q, es.eraseIdx i) :: B) = Blocks (A ++ (q, es) :: B) := by simp [Blocks]
  have h2 := h.two
  refine (under_any (del_pre h hp ht hc) (by rw [List.length_eraseIdx_of_lt hi]; omega) (fun p hp => h.sizes p (by simp [hp])) (fun p hp => h.sizes p (by simp [hp])) (by simpa using h2) (by simp at hlen ⊢; omega)).mono ?_
  rintro y w' ⟨rfl, S', h1, h2, h3⟩
  rw [hE] at h1
  rw [hB] at h2 h3
  refine ⟨rfl, rfl, S', h1, (hc.mono (fun k _ hk => ?_)).trans h2, fun k hk => .inl (h3 k hk)⟩
  rcases hk with hk | hk
  · exact .inl (.inl hk)
  · exact .inr (by rw [hk]; simp [Blocks])

set_option maxRecDepth 100000 in
set_option maxHeartbeats 2000000 in
theorem del_many_miss {t x q i : Nat} {A B : List Pg} {es : List XE} {kA : Option Addr} {m p : Nat} {cs : Nat → Int} {w : World} (hR : Rooted (cmpV dsc) w t x (A ++ (q, es) :: B) (ents (A ++ (q, es) :: B)).length) (hlen : (A ++ (q, es) :: B).length ≤ 100)
    (ha : Asks dsc w (.slice kA m p) (ents (A ++ (q, es) :: B)) cs) (hpr : Pos (fun t => cs (ents ((A ++ (q, es) :: B).take (t + 1))).length) (heads (A ++ (q, es) :: B).tail).length A.length false) (hpl : Pos (fun r => cs ((ents A).length + r)) es.length i false) :
    Calls Tryd.prog 40 #[.pointer (some ⟨t, 0, none⟩), .slice kA m p] w (DelP (cmpV dsc) t (ents (A ++ (q, es) :: B)) (fun k => (k = t ∨ k = x) ∨ k ∈ Blocks (A ++ (q, es) :: B)) false w) := by
  have HF := find_top hR (by omega) ha hpr
  have HFL := find_page hR ha hpl
  have HRT := Lib.hid hR
  have hsz : es.length ≤ 128 := (hR.sizes (q, es) (by simp)).2
  obtain ⟨hxt, hne⟩ := hR.ne
  have htq : ¬ t = q := fun e => (hne (q, es) (by simp)).2 e.symm
  have hcnt : (ents (A ++ (q, es) :: B)).length ≤ 25600 := by have := ents_le hR.sizes; omega
  obtain ⟨ver, b0, bs, xr, sq, ht, hx, _, hq, hbq, hlb, cx0, hcx, cq0⟩ := hR.at_
  have ct4 : w.cell? ⟨t, 4, none⟩ = some (.iface 126 (.pointer (some ⟨x, 0, none⟩))) := cell_of_heap ht 4
  have lt := lt_of_heap ht
  have lx := hx.lt
  have lq := hq.lt
  have HLEN := Lib.hid hlen
  simp only [List.length_append, List.length_cons] at hlen
  obtain ⟨k, hk⟩ : ∃ k, k = A.length := ⟨_, rfl⟩
  rw [← hk] at hcx HF
  have hk1 : (k : Int) < 258 := by omega
  have hk2 : (0 : Int) ≤ k := by omega
  obtain ⟨bl, hbl⟩ : ∃ bl, bl = bs.length := ⟨_, rfl⟩
  rw [← hbl] at cx0
  have hbc : ((bl : Int) < 128) = True := by simp; omega
  have HK := Lib.hid hk
  have HQ := Lib.hid hq
  have HT := Lib.hid ht
  have HX := Lib.hid hx
  have HB0 := Lib.hid (show Below w.heap.size w (w.alloc (.cells #[.int .i64 0] 3)) from (Below.refl _ _).alloc (Nat.le_refl _) _)
  have lb0 : w.heap.size < (w.alloc (.cells #[.int .i64 0] 3)).heap.size := by simp
  have cb0 : (w.alloc (.cells #[.int .i64 0] 3)).cell? ⟨w.heap.size, 0, none⟩ = some (.int .i64 0) := cell_of_heap (heap_new w _) 0
  have fc0 : (w.alloc (.cells #[.int .i64 0] 3)).frozen? ⟨w.heap.size, 0, none⟩ = false := free_of_heap (heap_new w _) 0
  clear hR hq ht ha hx hk hbl hbq hlb hlen hne hpr hpl
  go_enter Tryd.func40, Tryd.ntmps40
  go_wp2_with fail
  refine wp_loop_rounds 2 ?_
  rw [rounds_succ]
  go_wp2_with (go_at_call 70; refine (HF.out _ HB0.out).mono ?_; rintro y w1 ⟨rfl, hb1⟩; have db0 := (hb1.cell (p := ⟨w.heap.size, 0, none⟩) lb0).trans cb0; have fb0 := (hb1.frozen (p := ⟨w.heap.size, 0, none⟩) lb0).trans fc0; have HB1 := Lib.hid (up_below' HB0.out hb1); have dt4 := (HB1.out.cell (p := ⟨t, 4, none⟩) lt).trans ct4; have dx0 := (HB1.out.cell (p := ⟨x, 0, none⟩) lx).trans cx0; have hz1 : w.heap.size < w1.heap.size := (by have := hb1.size; omega); have lx1 : x < w1.heap.size := (by omega); have lt1 : t < w1.heap.size := (by omega); clear hb1)
  obtain ⟨wa, hwa⟩ : ∃ wz, wz = (w1.setCell ⟨w.heap.size, 0, none⟩ (.int .i64 k)).alloc (.cells #[.pointer (some ⟨x, 0, none⟩)] 126) := ⟨_, rfl⟩
  rw [← hwa]
  have hs1 : (w1.setCell ⟨w.heap.size, 0, none⟩ (.int .i64 k)).heap.size = w1.heap.size := by simp
  have HBA := Lib.hid (show Below w.heap.size w wa by rw [hwa]; exact (HB1.out.setCell (p := ⟨w.heap.size, 0, none⟩) (Nat.le_refl _) _).alloc (by rw [hs1]; exact HB1.out.size) _)
  have ci : wa.cell? ⟨w.heap.size, 0, none⟩ = some (.int .i64 k) := by
    rw [hwa]
    rw [World.cell?_alloc_lt _ _ ⟨w.heap.size, 0, none⟩ (by rw [hs1]; exact hz1)]
    exact World.cell?_setCell_same' _ _ _ (by rw [db0]; rfl)
  have cz : wa.cell? ⟨w1.heap.size, 0, none⟩ = some (.pointer (some ⟨x, 0, none⟩)) := by
    have h := heap_new (w1.setCell ⟨w.heap.size, 0, none⟩ (.int .i64 k)) (.cells #[.pointer (some ⟨x, 0, none⟩)] 126)
    rw [hs1, ← hwa] at h
    exact cell_of_heap h 0
  have dxk := (HBA.out.cell (p := ⟨x, 1 + k * 2, none⟩) lx).trans hcx
  clear hwa hs1 db0 fb0 cb0 fc0 lb0 dt4 dx0 HB0
  go_still_tail 7, (by kernel_rfl)
  obtain ⟨wb, hwb⟩ : ∃ wz, wz = wa.drew := ⟨_, rfl⟩
  change wpList _ _ _ _ _ wa.drew
  rw [← hwb]
  have HBB := Lib.hid (show Below w.heap.size w wb by rw [hwb]; exact HBA.out.drew)
  clear hwb ci cz dxk
  have HBN := Lib.hid (HBB.out.alloc HBB.out.size (.cells #[.int .i64 0] 3))
  have lbn : wb.heap.size < (wb.alloc (.cells #[.int .i64 0] 3)).heap.size := by simp
  have cbn : (wb.alloc (.cells #[.int .i64 0] 3)).cell? ⟨wb.heap.size, 0, none⟩ = some (.int .i64 0) := cell_of_heap (heap_new wb _) 0
  have fcn : (wb.alloc (.cells #[.int .i64 0] 3)).frozen? ⟨wb.heap.size, 0, none⟩ = false := free_of_heap (heap_new wb _) 0
  go_wp2_with fail
  rw [rounds_succ]
  go_wp2_with (go_at_call 70; refine (HFL.out _ HBN.out).mono ?_; rintro y w3 ⟨rfl, hb3⟩; have db3 := (hb3.cell (p := ⟨wb.heap.size, 0, none⟩) lbn).trans cbn; have fb3 := (hb3.frozen (p := ⟨wb.heap.size, 0, none⟩) lbn).trans fcn; have HB4 := Lib.hid ((up_below' HBN.out hb3).setCell (p := ⟨wb.heap.size, 0, none⟩) HBB.out.size (.int .i64 i)); clear hb3)
  go_ret
  exact ⟨rfl, _, (TreeAt.many HRT.out).belowS HB4.out, Chg.of_below HB4.out, fun k hk => .inl hk⟩

set_option maxRecDepth 100000 in
set_option maxHeartbeats 2000000 in
theorem del_many_big {t x q i g : Nat} {A B : List Pg} {es : List XE} {kA : Option Addr} {m p : Nat} {cs : Nat → Int} {w : World} (hR : Rooted (cmpV dsc) w t x (A ++ (q, es) :: B) (ents (A ++ (q, es) :: B)).length) (hlen : (A ++ (q, es) :: B).length ≤ 100)
    (ha : Asks dsc w (.slice kA m p) (ents (A ++ (q, es) :: B)) cs) (hg : g = (ents A).length + i) (hpr : Pos (fun t => cs (ents ((A ++ (q, es) :: B).take (t + 1))).length) (heads (A ++ (q, es) :: B).tail).length A.length false) (hpl : Pos (fun r => cs ((ents A).length + r)) es.length i true) (hn : 65 ≤ es.length) :
    Calls Tryd.prog 40 #[.pointer (some ⟨t, 0, none⟩), .slice kA m p] w (DelP (cmpV dsc) t ((ents (A ++ (q, es) :: B)).eraseIdx g) (fun k => (k = t ∨ k = x) ∨ k ∈ Blocks (A ++ (q, es) :: B)) true w) := by
  have HF := find_top hR (by omega) ha hpr
  have HFL := find_page hR ha hpl
  have HRT := Lib.hid hR
  have hsz : es.length ≤ 128 := (hR.sizes (q, es) (by simp)).2
  obtain ⟨hxt, hne⟩ := hR.ne
  have htq : ¬ t = q := fun e => (hne (q, es) (by simp)).2 e.symm
  have hcnt : (ents (A ++ (q, es) :: B)).length ≤ 25600 := by have := ents_le hR.sizes; omega
  obtain ⟨ver, b0, bs, xr, sq, ht, hx, _, hq, hbq, hlb, cx0, hcx, cq0⟩ := hR.at_
  have ct4 : w.cell? ⟨t, 4, none⟩ = some (.iface 126 (.pointer (some ⟨x, 0, none⟩))) := cell_of_heap ht 4
  have lt := lt_of_heap ht
  have lx := hx.lt
  have lq := hq.lt
  have HLEN := Lib.hid hlen
  simp only [List.length_append, List.length_cons] at hlen
  have hil : i < es.length := (hpl.hit rfl).1
  obtain ⟨n, hm⟩ : ∃ n, es.length = n + 1 := ⟨es.length - 1, by omega⟩
  have he : (es.eraseIdx i).length = n := by rw [List.length_eraseIdx_of_lt hil]; omega
  have hn64 : ((64 : Int) ≤ n) = True := by simp; omega
  have HG := Lib.hid hg
  have HIL := Lib.hid hil
  have HE := Lib.hid he
  have HM := Lib.hid hm
  have HNN := Lib.hid hn
  obtain ⟨k, hk⟩ : ∃ k, k = A.length := ⟨_, rfl⟩
  rw [← hk] at hcx HF
  have hk1 : (k : Int) < 258 := by omega
  have hk2 : (0 : Int) ≤ k := by omega
  obtain ⟨bl, hbl⟩ : ∃ bl, bl = bs.length := ⟨_, rfl⟩
  rw [← hbl] at cx0
  have hbc : ((bl : Int) < 128) = True := by simp; omega
  have HK := Lib.hid hk
  have HQ := Lib.hid hq
  have HT := Lib.hid ht
  have HX := Lib.hid hx
  have HB0 := Lib.hid (show Below w.heap.size w (w.alloc (.cells #[.int .i64 0] 3)) from (Below.refl _ _).alloc (Nat.le_refl _) _)
  have lb0 : w.heap.size < (w.alloc (.cells #[.int .i64 0] 3)).heap.size := by simp
  have cb0 : (w.alloc (.cells #[.int .i64 0] 3)).cell? ⟨w.heap.size, 0, none⟩ = some (.int .i64 0) := cell_of_heap (heap_new w _) 0
  have fc0 : (w.alloc (.cells #[.int .i64 0] 3)).frozen? ⟨w.heap.size, 0, none⟩ = false := free_of_heap (heap_new w _) 0
  clear hR hq ht ha hx hk hbl hbq hlb hlen hne hpr hpl hg hil he hm hn
  go_enter Tryd.func40, Tryd.ntmps40
  go_wp2_with fail
  refine wp_loop_rounds 2 ?_
  rw [rounds_succ]
  go_wp2_with (go_at_call 70; refine (HF.out _ HB0.out).mono ?_; rintro y w1 ⟨rfl, hb1⟩; have db0 := (hb1.cell (p := ⟨w.heap.size, 0, none⟩) lb0).trans cb0; have fb0 := (hb1.frozen (p := ⟨w.heap.size, 0, none⟩) lb0).trans fc0; have HB1 := Lib.hid (up_below' HB0.out hb1); have dt4 := (HB1.out.cell (p := ⟨t, 4, none⟩) lt).trans ct4; have dx0 := (HB1.out.cell (p := ⟨x, 0, none⟩) lx).trans cx0; have hz1 : w.heap.size < w1.heap.size := (by have := hb1.size; omega); have lx1 : x < w1.heap.size := (by omega); have lt1 : t < w1.heap.size := (by omega); clear hb1)
  obtain ⟨wa, hwa⟩ : ∃ wz, wz = (w1.setCell ⟨w.heap.size, 0, none⟩ (.int .i64 k)).alloc (.cells #[.pointer (some ⟨x, 0, none⟩)] 126) := ⟨_, rfl⟩
  rw [← hwa]
  have hs1 : (w1.setCell ⟨w.heap.size, 0, none⟩ (.int .i64 k)).heap.size = w1.heap.size := by simp
  have HBA := Lib.hid (show Below w.heap.size w wa by rw [hwa]; exact (HB1.out.setCell (p := ⟨w.heap.size, 0, none⟩) (Nat.le_refl _) _).alloc (by rw [hs1]; exact HB1.out.size) _)
  have ci : wa.cell? ⟨w.heap.size, 0, none⟩ = some (.int .i64 k) := by
    rw [hwa]
    rw [World.cell?_alloc_lt _ _ ⟨w.heap.size, 0, none⟩ (by rw [hs1]; exact hz1)]
    exact World.cell?_setCell_same' _ _ _ (by rw [db0]; rfl)
  have cz : wa.cell? ⟨w1.heap.size, 0, none⟩ = some (.pointer (some ⟨x, 0, none⟩)) := by
    have h := heap_new (w1.setCell ⟨w.heap.size, 0, none⟩ (.int .i64 k)) (.cells #[.pointer (some ⟨x, 0, none⟩)] 126)
    rw [hs1, ← hwa] at h
    exact cell_of_heap h 0
  have dxk := (HBA.out.cell (p := ⟨x, 1 + k * 2, none⟩) lx).trans hcx
  clear hwa hs1 db0 fb0 cb0 fc0 lb0 dt4 dx0 HB0
  go_still_tail 7, (by kernel_rfl)
  obtain ⟨wb, hwb⟩ : ∃ wz, wz = wa.drew := ⟨_, rfl⟩
  change wpList _ _ _ _ _ wa.drew
  rw [← hwb]
  have HBB := Lib.hid (show Below w.heap.size w wb by rw [hwb]; exact HBA.out.drew)
  clear hwb ci cz dxk
  have HBN := Lib.hid (HBB.out.alloc HBB.out.size (.cells #[.int .i64 0] 3))
  have lbn : wb.heap.size < (wb.alloc (.cells #[.int .i64 0] 3)).heap.size := by simp
  have cbn : (wb.alloc (.cells #[.int .i64 0] 3)).cell? ⟨wb.heap.size, 0, none⟩ = some (.int .i64 0) := cell_of_heap (heap_new wb _) 0
  have fcn : (wb.alloc (.cells #[.int .i64 0] 3)).frozen? ⟨wb.heap.size, 0, none⟩ = false := free_of_heap (heap_new wb _) 0
  go_wp2_with fail
  rw [rounds_succ]
  go_wp2_with (first | (go_at_call 70; refine (HFL.out _ HBN.out).mono ?_; rintro y w3 ⟨rfl, hb3⟩; have db3 := (hb3.cell (p := ⟨wb.heap.size, 0, none⟩) lbn).trans cbn; have fb3 := (hb3.frozen (p := ⟨wb.heap.size, 0, none⟩) lbn).trans fcn; have HB4 := Lib.hid ((up_below' HBN.out hb3).setCell (p := ⟨wb.heap.size, 0, none⟩) HBB.out.size (.int .i64 i)); clear hb3) | (go_at_call 75; refine (extract_any t q i es sq _ _ _ _ _ _ ver _ (HQ.out.below HB4.out) (heap_below HT.out HB4.out) htq HIL.out (by omega) (by omega)).mono ?_; rintro y w5 ⟨rfl, hp5, ht5, hc5⟩; have hc6 := (Chg.of_below (S := fun k => k = t ∨ k = q) HB4.out).next hc5 (fun _ _ h => h); have e0 : w5.cell? ⟨q, 0, none⟩ = some (.int .i64 n) := (by obtain ⟨s5, hp5⟩ := hp5; rw [hp5.cell, pgL_count, HE.out]); have e4 : w5.cell? ⟨t, 4, none⟩ = some (.iface 126 (.pointer (some ⟨x, 0, none⟩))) := (by obtain ⟨v5, ht5⟩ := ht5; exact cell_of_heap ht5 4); have HP5 := Lib.hid hp5; have HT5 := Lib.hid ht5; have HC6 := Lib.hid hc6; clear hp5 ht5 hc5 hc6))
  go_ret
  exact del_big HRT.out HG.out HIL.out HNN.out HP5.out HT5.out HC6.out

set_option maxRecDepth 100000 in
set_option maxHeartbeats 2000000 in
theorem del_many_small {t x q i g : Nat} {A B : List Pg} {es : List XE} {kA : Option Addr} {m p : Nat} {cs : Nat → Int} {w : World} (hR : Rooted (cmpV dsc) w t x (A ++ (q, es) :: B) (ents (A ++ (q, es) :: B)).length) (hlen : (A ++ (q, es) :: B).length ≤ 100)
    (ha : Asks dsc w (.slice kA m p) (ents (A ++ (q, es) :: B)) cs) (hg : g = (ents A).length + i) (hpr : Pos (fun t => cs (ents ((A ++ (q, es) :: B).take (t + 1))).length) (heads (A ++ (q, es) :: B).tail).length A.length false) (hpl : Pos (fun r => cs ((ents A).length + r)) es.length i true) (hn : es.length = 64) :
    Calls Tryd.prog 40 #[.pointer (some ⟨t, 0, none⟩), .slice kA m p] w (DelP (cmpV dsc) t ((ents (A ++ (q, es) :: B)).eraseIdx g) (fun k => (k = t ∨ k = x) ∨ k ∈ Blocks (A ++ (q, es) :: B)) true w) := by
  have HF := find_top hR (by omega) ha hpr
  have HFL := find_page hR ha hpl
  have HRT := Lib.hid hR
  have hsz : es.length ≤ 128 := (hR.sizes (q, es) (by simp)).2
  obtain ⟨hxt, hne⟩ := hR.ne
  have htq : ¬ t = q := fun e => (hne (q, es) (by simp)).2 e.symm
  have hcnt : (ents (A ++ (q, es) :: B)).length ≤ 25600 := by have := ents_le hR.sizes; omega
  obtain ⟨ver, b0, bs, xr, sq, ht, hx, _, hq, hbq, hlb, cx0, hcx, cq0⟩ := hR.at_
  have ct4 : w.cell? ⟨t, 4, none⟩ = some (.iface 126 (.pointer (some ⟨x, 0, none⟩))) := cell_of_heap ht 4
  have lt := lt_of_heap ht
  have lx := hx.lt
  have lq := hq.lt
  have HLEN := Lib.hid hlen
  simp only [List.length_append, List.length_cons] at hlen
  have hil : i < es.length := (hpl.hit rfl).1
  obtain ⟨n, hm⟩ : ∃ n, es.length = n + 1 := ⟨es.length - 1, by omega⟩
  have he : (es.eraseIdx i).length = n := by rw [List.length_eraseIdx_of_lt hil]; omega
  have hn64 : ((64 : Int) ≤ n) = False := by simp; omega
  have HG := Lib.hid hg
  have HIL := Lib.hid hil
  have HE := Lib.hid he
  have HM := Lib.hid hm
  have HNN := Lib.hid hn
  obtain ⟨k, hk⟩ : ∃ k, k = A.length := ⟨_, rfl⟩
  rw [← hk] at hcx HF
  have hk1 : (k : Int) < 258 := by omega
  have hk2 : (0 : Int) ≤ k := by omega
  obtain ⟨bl, hbl⟩ : ∃ bl, bl = bs.length := ⟨_, rfl⟩
  rw [← hbl] at cx0
  have hbc : ((bl : Int) < 128) = True := by simp; omega
  have HK := Lib.hid hk
  have HQ := Lib.hid hq
  have HT := Lib.hid ht
  have HX := Lib.hid hx
  have HB0 := Lib.hid (show Below w.heap.size w (w.alloc (.cells #[.int .i64 0] 3)) from (Below.refl _ _).alloc (Nat.le_refl _) _)
  have lb0 : w.heap.size < (w.alloc (.cells #[.int .i64 0] 3)).heap.size := by simp
  have cb0 : (w.alloc (.cells #[.int .i64 0] 3)).cell? ⟨w.heap.size, 0, none⟩ = some (.int .i64 0) := cell_of_heap (heap_new w _) 0
  have fc0 : (w.alloc (.cells #[.int .i64 0] 3)).frozen? ⟨w.heap.size, 0, none⟩ = false := free_of_heap (heap_new w _) 0
  clear hR hq ht ha hx hk hbl hbq hlb hlen hne hpr hpl hg hil he hm hn
  go_enter Tryd.func40, Tryd.ntmps40
  go_wp2_with fail
  refine wp_loop_rounds 2 ?_
  rw [rounds_succ]
  go_wp2_with (go_at_call 70; refine (HF.out _ HB0.out).mono ?_; rintro y w1 ⟨rfl, hb1⟩; have db0 := (hb1.cell (p := ⟨w.heap.size, 0, none⟩) lb0).trans cb0; have fb0 := (hb1.frozen (p := ⟨w.heap.size, 0, none⟩) lb0).trans fc0; have HB1 := Lib.hid (up_below' HB0.out hb1); have dt4 := (HB1.out.cell (p := ⟨t, 4, none⟩) lt).trans ct4; have dx0 := (HB1.out.cell (p := ⟨x, 0, none⟩) lx).trans cx0; have hz1 : w.heap.size < w1.heap.size := (by have := hb1.size; omega); have lx1 : x < w1.heap.size := (by omega); have lt1 : t < w1.heap.size := (by omega); clear hb1)
  obtain ⟨wa, hwa⟩ : ∃ wz, wz = (w1.setCell ⟨w.heap.size, 0, none⟩ (.int .i64 k)).alloc (.cells #[.pointer (some ⟨x, 0, none⟩)] 126) := ⟨_, rfl⟩
  rw [← hwa]
  have hs1 : (w1.setCell ⟨w.heap.size, 0, none⟩ (.int .i64 k)).heap.size = w1.heap.size := by simp
  have HBA := Lib.hid (show Below w.heap.size w wa by rw [hwa]; exact (HB1.out.setCell (p := ⟨w.heap.size, 0, none⟩) (Nat.le_refl _) _).alloc (by rw [hs1]; exact HB1.out.size) _)
  have ci : wa.cell? ⟨w.heap.size, 0, none⟩ = some (.int .i64 k) := by
    rw [hwa]
    rw [World.cell?_alloc_lt _ _ ⟨w.heap.size, 0, none⟩ (by rw [hs1]; exact hz1)]
    exact World.cell?_setCell_same' _ _ _ (by rw [db0]; rfl)
  have cz : wa.cell? ⟨w1.heap.size, 0, none⟩ = some (.pointer (some ⟨x, 0, none⟩)) := by
    have h := heap_new (w1.setCell ⟨w.heap.size, 0, none⟩ (.int .i64 k)) (.cells #[.pointer (some ⟨x, 0, none⟩)] 126)
    rw [hs1, ← hwa] at h
    exact cell_of_heap h 0
  have dxk := (HBA.out.cell (p := ⟨x, 1 + k * 2, none⟩) lx).trans hcx
  clear hwa hs1 db0 fb0 cb0 fc0 lb0 dt4 dx0 HB0
  go_still_tail 7, (by kernel_rfl)
  obtain ⟨wb, hwb⟩ : ∃ wz, wz = wa.drew := ⟨_, rfl⟩
  change wpList _ _ _ _ _ wa.drew
  rw [← hwb]
  have HBB := Lib.hid (show Below w.heap.size w wb by rw [hwb]; exact HBA.out.drew)
  clear hwb ci cz dxk
  have HBN := Lib.hid (HBB.out.alloc HBB.out.size (.cells #[.int .i64 0] 3))
  have lbn : wb.heap.size < (wb.alloc (.cells #[.int .i64 0] 3)).heap.size := by simp
  have cbn : (wb.alloc (.cells #[.int .i64 0] 3)).cell? ⟨wb.heap.size, 0, none⟩ = some (.int .i64 0) := cell_of_heap (heap_new wb _) 0
  have fcn : (wb.alloc (.cells #[.int .i64 0] 3)).frozen? ⟨wb.heap.size, 0, none⟩ = false := free_of_heap (heap_new wb _) 0
  go_wp2_with fail
  rw [rounds_succ]
  have HUN := Lib.hid (fun w5 hp ht hc => del_small (w5 := w5) HRT.out HLEN.out HG.out HIL.out HNN.out hp ht hc)
  rw [← HK.out] at HUN
  go_wp2_with (first | (go_at_call 70; refine (HFL.out _ HBN.out).mono ?_; rintro y w3 ⟨rfl, hb3⟩; have db3 := (hb3.cell (p := ⟨wb.heap.size, 0, none⟩) lbn).trans cbn; have fb3 := (hb3.frozen (p := ⟨wb.heap.size, 0, none⟩) lbn).trans fcn; have HB4 := Lib.hid ((up_below' HBN.out hb3).setCell (p := ⟨wb.heap.size, 0, none⟩) HBB.out.size (.int .i64 i)); clear hb3) | (go_at_call 75; refine (extract_any t q i es sq _ _ _ _ _ _ ver _ (HQ.out.below HB4.out) (heap_below HT.out HB4.out) htq HIL.out (by omega) (by omega)).mono ?_; rintro y w5 ⟨rfl, hp5, ht5, hc5⟩; have hc6 := (Chg.of_below (S := fun k => k = t ∨ k = q) HB4.out).next hc5 (fun _ _ h => h); have e0 : w5.cell? ⟨q, 0, none⟩ = some (.int .i64 n) := (by obtain ⟨s5, hp5⟩ := hp5; rw [hp5.cell, pgL_count, HE.out]); have e4 : w5.cell? ⟨t, 4, none⟩ = some (.iface 126 (.pointer (some ⟨x, 0, none⟩))) := (by obtain ⟨v5, ht5⟩ := ht5; exact cell_of_heap ht5 4); have HP5 := Lib.hid hp5; have HT5 := Lib.hid ht5; have HC6 := Lib.hid hc6; clear hp5 ht5 hc5 hc6) | (go_at_call 77; refine (HUN.out w5 HP5.out HT5.out HC6.out).mono ?_; rintro y w6 ⟨rfl, hD⟩))
  go_ret
  exact hD

set_option maxRecDepth 100000 in
set_option maxHeartbeats 2000000 in
theorem del_many_low {t x q i g r : Nat} {A B : List Pg} {es : List XE} {kA : Option Addr} {m p : Nat} {cs : Nat → Int} {w : World} (hR : Rooted (cmpV dsc) w t x (A ++ (q, es) :: B) (ents (A ++ (q, es) :: B)).length) (hlen : (A ++ (q, es) :: B).length ≤ 100)
    (ha : Asks dsc w (.slice kA m p) (ents (A ++ (q, es) :: B)) cs) (hg : g = (ents A).length + i) (hr : A.length = r + 1) (hp : Pos cs (ents (A ++ (q, es) :: B)).length (ents A).length true) (hi0 : i = 0) (hn : es.length = 64) :
    Calls Tryd.prog 40 #[.pointer (some ⟨t, 0, none⟩), .slice kA m p] w (DelP (cmpV dsc) t ((ents (A ++ (q, es) :: B)).eraseIdx g) (fun k => (k = t ∨ k = x) ∨ k ∈ Blocks (A ++ (q, es) :: B)) true w) := by
  have HF := find_top hR (by omega) ha (root_hit rfl hr rfl (hR.one (q, es) (by simp)) hR.one hp)
  have HFL := find_page hR ha (page_hit (i := 0) rfl (hR.one (q, es) (by simp)) hp)
  have HRT := Lib.hid hR
  have hsz : es.length ≤ 128 := (hR.sizes (q, es) (by simp)).2
  obtain ⟨hxt, hne⟩ := hR.ne
  have htq : ¬ t = q := fun e => (hne (q, es) (by simp)).2 e.symm
  have hcnt : (ents (A ++ (q, es) :: B)).length ≤ 25600 := by have := ents_le hR.sizes; omega
  obtain ⟨ver, b0, bs, xr, sq, ht, hx, _, hq, hbq, hlb, cx0, hcx, cq0⟩ := hR.at_
  have ct4 : w.cell? ⟨t, 4, none⟩ = some (.iface 126 (.pointer (some ⟨x, 0, none⟩))) := cell_of_heap ht 4
  have lt := lt_of_heap ht
  have lx := hx.lt
  have lq := hq.lt
  have HLEN := Lib.hid hlen
  simp only [List.length_append, List.length_cons] at hlen
  have hbq2 : bs[r]? = some q := by rw [hr] at hbq; simpa using hbq
  have hsep : w.cell? ⟨x, 1 + r * 2 + 1, none⟩ = some (.pointer (some ⟨q, 0, none⟩)) := hx.sep hbq2
  have hr1 : (r : Int) < 258 := by omega
  have hr2 : (0 : Int) ≤ r := by omega
  have hil : 0 < es.length := by omega
  obtain ⟨n, hm⟩ : ∃ n, es.length = n + 1 := ⟨es.length - 1, by omega⟩
  have he : (es.eraseIdx 0).length = n := by rw [List.length_eraseIdx_of_lt hil]; omega
  have hn64 : ((64 : Int) ≤ n) = False := by simp; omega
  subst hi0
  have HG := Lib.hid hg
  have HIL := Lib.hid hil
  have HE := Lib.hid he
  have HM := Lib.hid hm
  have HNN := Lib.hid hn
  rw [hm] at cq0
  have hq64 : ((64 : Int) < ((n + 1 : Nat) : Int)) = False := by simp; omega
  obtain ⟨n1, hn1⟩ : ∃ n1, n1 = n + 1 := ⟨_, rfl⟩
  rw [← hn1] at cq0 hq64
  clear hn1
  obtain ⟨k, hk⟩ : ∃ k, k = A.length := ⟨_, rfl⟩
  rw [← hk] at hcx
  have hk1 : (k : Int) < 258 := by omega
  have hk2 : (0 : Int) ≤ k := by omega
  have hkr : (r : Int) + 1 = (k : Int) := by omega
  obtain ⟨bl, hbl⟩ : ∃ bl, bl = bs.length := ⟨_, rfl⟩
  rw [← hbl] at cx0
  have hbc : ((bl : Int) < 128) = True := by simp; omega
  have HK := Lib.hid hk
  have HQ := Lib.hid hq
  have HT := Lib.hid ht
  have HX := Lib.hid hx
  have HB0 := Lib.hid (show Below w.heap.size w (w.alloc (.cells #[.int .i64 0] 3)) from (Below.refl _ _).alloc (Nat.le_refl _) _)
  have lb0 : w.heap.size < (w.alloc (.cells #[.int .i64 0] 3)).heap.size := by simp
  have cb0 : (w.alloc (.cells #[.int .i64 0] 3)).cell? ⟨w.heap.size, 0, none⟩ = some (.int .i64 0) := cell_of_heap (heap_new w _) 0
  have fc0 : (w.alloc (.cells #[.int .i64 0] 3)).frozen? ⟨w.heap.size, 0, none⟩ = false := free_of_heap (heap_new w _) 0
  clear hR hq ht ha hx hk hbl hbq hlb hlen hne hp hbq2 hr hg hil he hm hn
  go_enter Tryd.func40, Tryd.ntmps40
  go_wp2_with fail
  refine wp_loop_rounds 2 ?_
  rw [rounds_succ]
  go_wp2_with (go_at_call 70; refine (HF.out _ HB0.out).mono ?_; rintro y w1 ⟨rfl, hb1⟩; have db0 := (hb1.cell (p := ⟨w.heap.size, 0, none⟩) lb0).trans cb0; have fb0 := (hb1.frozen (p := ⟨w.heap.size, 0, none⟩) lb0).trans fc0; have HB1 := Lib.hid (up_below' HB0.out hb1); have dt4 := (HB1.out.cell (p := ⟨t, 4, none⟩) lt).trans ct4; have dx0 := (HB1.out.cell (p := ⟨x, 0, none⟩) lx).trans cx0; have hz1 : w.heap.size < w1.heap.size := (by have := hb1.size; omega); have lx1 : x < w1.heap.size := (by omega); have lt1 : t < w1.heap.size := (by omega); clear hb1)
  obtain ⟨wa, hwa⟩ : ∃ wz, wz = (w1.setCell ⟨w.heap.size, 0, none⟩ (.int .i64 r)).alloc (.cells #[.pointer (some ⟨x, 0, none⟩)] 126) := ⟨_, rfl⟩
  rw [← hwa]
  have hs1 : (w1.setCell ⟨w.heap.size, 0, none⟩ (.int .i64 r)).heap.size = w1.heap.size := by simp
  have HBA := Lib.hid (show Below w.heap.size w wa by rw [hwa]; exact (HB1.out.setCell (p := ⟨w.heap.size, 0, none⟩) (Nat.le_refl _) _).alloc (by rw [hs1]; exact HB1.out.size) _)
  have ci : wa.cell? ⟨w.heap.size, 0, none⟩ = some (.int .i64 r) := by
    rw [hwa]
    rw [World.cell?_alloc_lt _ _ ⟨w.heap.size, 0, none⟩ (by rw [hs1]; exact hz1)]
    exact World.cell?_setCell_same' _ _ _ (by rw [db0]; rfl)
  have cz : wa.cell? ⟨w1.heap.size, 0, none⟩ = some (.pointer (some ⟨x, 0, none⟩)) := by
    have h := heap_new (w1.setCell ⟨w.heap.size, 0, none⟩ (.int .i64 r)) (.cells #[.pointer (some ⟨x, 0, none⟩)] 126)
    rw [hs1, ← hwa] at h
    exact cell_of_heap h 0
  have dxk := (HBA.out.cell (p := ⟨x, 1 + k * 2, none⟩) lx).trans hcx
  have dsep := (HBA.out.cell (p := ⟨x, 1 + r * 2 + 1, none⟩) lx).trans hsep
  clear hwa hs1 db0 fb0 cb0 fc0 lb0 dt4 dx0 HB0
  go_still_tail 7, (by kernel_rfl)
  obtain ⟨wb, hwb⟩ : ∃ wz, wz = wa.drew := ⟨_, rfl⟩
  change wpList _ _ _ _ _ wa.drew
  rw [← hwb]
  have HBB := Lib.hid (show Below w.heap.size w wb by rw [hwb]; exact HBA.out.drew)
  replace ci : wb.cell? ⟨w.heap.size, 0, none⟩ = some (.int .i64 r) := by rw [hwb]; exact ci
  replace cz : wb.cell? ⟨w1.heap.size, 0, none⟩ = some (.pointer (some ⟨x, 0, none⟩)) := by rw [hwb]; exact cz
  replace dxk := (HBB.out.cell (p := ⟨x, 1 + k * 2, none⟩) lx).trans hcx
  have dx0 := (HBB.out.cell (p := ⟨x, 0, none⟩) lx).trans cx0
  have dt4 := (HBB.out.cell (p := ⟨t, 4, none⟩) lt).trans ct4
  have dq0 := (HBB.out.cell (p := ⟨q, 0, none⟩) lq).trans cq0
  clear hwb dsep
  have HBN := Lib.hid (HBB.out.alloc HBB.out.size (.cells #[.int .i64 0] 3))
  have lbn : wb.heap.size < (wb.alloc (.cells #[.int .i64 0] 3)).heap.size := by simp
  have cbn : (wb.alloc (.cells #[.int .i64 0] 3)).cell? ⟨wb.heap.size, 0, none⟩ = some (.int .i64 0) := cell_of_heap (heap_new wb _) 0
  have fcn : (wb.alloc (.cells #[.int .i64 0] 3)).frozen? ⟨wb.heap.size, 0, none⟩ = false := free_of_heap (heap_new wb _) 0
  go_wp2_with fail
  rw [rounds_succ]
  have HUN := Lib.hid (fun w5 hp ht hc => del_small (w5 := w5) HRT.out HLEN.out HG.out HIL.out HNN.out hp ht hc)
  rw [← HK.out] at HUN
  go_wp2_with (first | (go_at_call 70; refine (HFL.out _ HBN.out).mono ?_; rintro y w3 ⟨rfl, hb3⟩; have db3 := (hb3.cell (p := ⟨wb.heap.size, 0, none⟩) lbn).trans cbn; have fb3 := (hb3.frozen (p := ⟨wb.heap.size, 0, none⟩) lbn).trans fcn; have HB4 := Lib.hid ((up_below' HBN.out hb3).setCell (p := ⟨wb.heap.size, 0, none⟩) HBB.out.size (.int .i64 0)); clear hb3) | (go_at_call 75; refine (extract_any t q 0 es sq _ _ _ _ _ _ ver _ (HQ.out.below HB4.out) (heap_below HT.out HB4.out) htq HIL.out (by omega) (by omega)).mono ?_; rintro y w5 ⟨rfl, hp5, ht5, hc5⟩; have hc6 := (Chg.of_below (S := fun k => k = t ∨ k = q) HB4.out).next hc5 (fun _ _ h => h); have e0 : w5.cell? ⟨q, 0, none⟩ = some (.int .i64 n) := (by obtain ⟨s5, hp5⟩ := hp5; rw [hp5.cell, pgL_count, HE.out]); have e4 : w5.cell? ⟨t, 4, none⟩ = some (.iface 126 (.pointer (some ⟨x, 0, none⟩))) := (by obtain ⟨v5, ht5⟩ := ht5; exact cell_of_heap ht5 4); have HP5 := Lib.hid hp5; have HT5 := Lib.hid ht5; have HC6 := Lib.hid hc6; clear hp5 ht5 hc5 hc6) | (go_at_call 77; refine (HUN.out w5 HP5.out HT5.out HC6.out).mono ?_; rintro y w6 ⟨rfl, hD⟩))
  go_ret
  exact hD

set_option maxRecDepth 100000 in
set_option maxHeartbeats 2000000 in
theorem del_many_top {t x q i g r : Nat} {A B : List Pg} {es : List XE} {kA : Option Addr} {m p : Nat} {cs : Nat → Int} {w : World} (hR : Rooted (cmpV dsc) w t x (A ++ (q, es) :: B) (ents (A ++ (q, es) :: B)).length) (hlen : (A ++ (q, es) :: B).length ≤ 100)
    (ha : Asks dsc w (.slice kA m p) (ents (A ++ (q, es) :: B)) cs) (hg : g = (ents A).length + i) (hr : A.length = r + 1) (hp : Pos cs (ents (A ++ (q, es) :: B)).length (ents A).length true) (hi0 : i = 0) (hn : 65 ≤ es.length) :
    Calls Tryd.prog 40 #[.pointer (some ⟨t, 0, none⟩), .slice kA m p] w (DelP (cmpV dsc) t ((ents (A ++ (q, es) :: B)).eraseIdx g) (fun k => (k = t ∨ k = x) ∨ k ∈ Blocks (A ++ (q, es) :: B)) true w) := by
  have HF := find_top hR (by omega) ha (root_hit rfl hr rfl (hR.one (q, es) (by simp)) hR.one hp)
  have HRT := Lib.hid hR
  have hsz : es.length ≤ 128 := (hR.sizes (q, es) (by simp)).2
  obtain ⟨hxt, hne⟩ := hR.ne
  have htq : ¬ t = q := fun e => (hne (q, es) (by simp)).2 e.symm
  have hcnt : (ents (A ++ (q, es) :: B)).length ≤ 25600 := by have := ents_le hR.sizes; omega
  obtain ⟨ver, b0, bs, xr, sq, ht, hx, _, hq, hbq, hlb, cx0, hcx, cq0⟩ := hR.at_
  have ct4 : w.cell? ⟨t, 4, none⟩ = some (.iface 126 (.pointer (some ⟨x, 0, none⟩))) := cell_of_heap ht 4
  have lt := lt_of_heap ht
  have lx := hx.lt
  have lq := hq.lt
  have HLEN := Lib.hid hlen
  simp only [List.length_append, List.length_cons] at hlen
  have hbq2 : bs[r]? = some q := by rw [hr] at hbq; simpa using hbq
  have hsep : w.cell? ⟨x, 1 + r * 2 + 1, none⟩ = some (.pointer (some ⟨q, 0, none⟩)) := hx.sep hbq2
  have hr1 : (r : Int) < 258 := by omega
  have hr2 : (0 : Int) ≤ r := by omega
  have hil : 0 < es.length := by omega
  obtain ⟨n, hm⟩ : ∃ n, es.length = n + 1 := ⟨es.length - 1, by omega⟩
  have he : (es.eraseIdx 0).length = n := by rw [List.length_eraseIdx_of_lt hil]; omega
  have hn64 : ((64 : Int) ≤ n) = True := by simp; omega
  subst hi0
  have HG := Lib.hid hg
  have HIL := Lib.hid hil
  have HE := Lib.hid he
  have HM := Lib.hid hm
  have HNN := Lib.hid hn
  rw [hm] at cq0
  have hq64 : ((64 : Int) < ((n + 1 : Nat) : Int)) = True := by simp; omega
  obtain ⟨n1, hn1⟩ : ∃ n1, n1 = n + 1 := ⟨_, rfl⟩
  rw [← hn1] at cq0 hq64
  clear hn1
  obtain ⟨k, hk⟩ : ∃ k, k = A.length := ⟨_, rfl⟩
  rw [← hk] at hcx
  have hk1 : (k : Int) < 258 := by omega
  have hk2 : (0 : Int) ≤ k := by omega
  have hkr : (r : Int) + 1 = (k : Int) := by omega
  obtain ⟨bl, hbl⟩ : ∃ bl, bl = bs.length := ⟨_, rfl⟩
  rw [← hbl] at cx0
  have hbc : ((bl : Int) < 128) = True := by simp; omega
  have HK := Lib.hid hk
  have HQ := Lib.hid hq
  have HT := Lib.hid ht
  have HX := Lib.hid hx
  have HB0 := Lib.hid (show Below w.heap.size w (w.alloc (.cells #[.int .i64 0] 3)) from (Below.refl _ _).alloc (Nat.le_refl _) _)
  have lb0 : w.heap.size < (w.alloc (.cells #[.int .i64 0] 3)).heap.size := by simp
  have cb0 : (w.alloc (.cells #[.int .i64 0] 3)).cell? ⟨w.heap.size, 0, none⟩ = some (.int .i64 0) := cell_of_heap (heap_new w _) 0
  have fc0 : (w.alloc (.cells #[.int .i64 0] 3)).frozen? ⟨w.heap.size, 0, none⟩ = false := free_of_heap (heap_new w _) 0
  clear hR hq ht ha hx hk hbl hbq hlb hlen hne hp hbq2 hr hg hil he hm hn
  go_enter Tryd.func40, Tryd.ntmps40
  go_wp2_with fail
  refine wp_loop_rounds 1 ?_
  rw [rounds_succ]
  go_wp2_with (go_at_call 70; refine (HF.out _ HB0.out).mono ?_; rintro y w1 ⟨rfl, hb1⟩; have db0 := (hb1.cell (p := ⟨w.heap.size, 0, none⟩) lb0).trans cb0; have fb0 := (hb1.frozen (p := ⟨w.heap.size, 0, none⟩) lb0).trans fc0; have HB1 := Lib.hid (up_below' HB0.out hb1); have dt4 := (HB1.out.cell (p := ⟨t, 4, none⟩) lt).trans ct4; have dx0 := (HB1.out.cell (p := ⟨x, 0, none⟩) lx).trans cx0; have hz1 : w.heap.size < w1.heap.size := (by have := hb1.size; omega); have lx1 : x < w1.heap.size := (by omega); have lt1 : t < w1.heap.size := (by omega); clear hb1)
  obtain ⟨wa, hwa⟩ : ∃ wz, wz = (w1.setCell ⟨w.heap.size, 0, none⟩ (.int .i64 r)).alloc (.cells #[.pointer (some ⟨x, 0, none⟩)] 126) := ⟨_, rfl⟩
  rw [← hwa]
  have hs1 : (w1.setCell ⟨w.heap.size, 0, none⟩ (.int .i64 r)).heap.size = w1.heap.size := by simp
  have HBA := Lib.hid (show Below w.heap.size w wa by rw [hwa]; exact (HB1.out.setCell (p := ⟨w.heap.size, 0, none⟩) (Nat.le_refl _) _).alloc (by rw [hs1]; exact HB1.out.size) _)
  have ci : wa.cell? ⟨w.heap.size, 0, none⟩ = some (.int .i64 r) := by
    rw [hwa]
    rw [World.cell?_alloc_lt _ _ ⟨w.heap.size, 0, none⟩ (by rw [hs1]; exact hz1)]
    exact World.cell?_setCell_same' _ _ _ (by rw [db0]; rfl)
  have cz : wa.cell? ⟨w1.heap.size, 0, none⟩ = some (.pointer (some ⟨x, 0, none⟩)) := by
    have h := heap_new (w1.setCell ⟨w.heap.size, 0, none⟩ (.int .i64 r)) (.cells #[.pointer (some ⟨x, 0, none⟩)] 126)
    rw [hs1, ← hwa] at h
    exact cell_of_heap h 0
  have dxk := (HBA.out.cell (p := ⟨x, 1 + k * 2, none⟩) lx).trans hcx
  have dsep := (HBA.out.cell (p := ⟨x, 1 + r * 2 + 1, none⟩) lx).trans hsep
  clear hwa hs1 db0 fb0 cb0 fc0 lb0 dt4 dx0 HB0
  go_still_tail 7, (by kernel_rfl)
  obtain ⟨wb, hwb⟩ : ∃ wz, wz = wa.drew := ⟨_, rfl⟩
  change wpList _ _ _ _ _ wa.drew
  rw [← hwb]
  have HBB := Lib.hid (show Below w.heap.size w wb by rw [hwb]; exact HBA.out.drew)
  replace ci : wb.cell? ⟨w.heap.size, 0, none⟩ = some (.int .i64 r) := by rw [hwb]; exact ci
  replace cz : wb.cell? ⟨w1.heap.size, 0, none⟩ = some (.pointer (some ⟨x, 0, none⟩)) := by rw [hwb]; exact cz
  replace dxk := (HBB.out.cell (p := ⟨x, 1 + k * 2, none⟩) lx).trans hcx
  have dx0 := (HBB.out.cell (p := ⟨x, 0, none⟩) lx).trans cx0
  have dt4 := (HBB.out.cell (p := ⟨t, 4, none⟩) lt).trans ct4
  have dq0 := (HBB.out.cell (p := ⟨q, 0, none⟩) lq).trans cq0
  clear hwb dsep
  go_wp2_with (go_at_call 75; refine (extract_any t q 0 es sq _ _ _ _ _ _ ver _ (HQ.out.below HBB.out) (heap_below HT.out HBB.out) htq HIL.out (by omega) (by omega)).mono ?_; rintro y w5 ⟨rfl, hp5, ht5, hc5⟩; have hc6 := (Chg.of_below (S := fun k => k = t ∨ k = q) HBB.out).next hc5 (fun _ _ h => h); have e0 : w5.cell? ⟨q, 0, none⟩ = some (.int .i64 n) := (by obtain ⟨s5, hp5⟩ := hp5; rw [hp5.cell, pgL_count, HE.out]); have e4 : w5.cell? ⟨t, 4, none⟩ = some (.iface 126 (.pointer (some ⟨x, 0, none⟩))) := (by obtain ⟨v5, ht5⟩ := ht5; exact cell_of_heap ht5 4); have HP5 := Lib.hid hp5; have HT5 := Lib.hid ht5; have HC6 := Lib.hid hc6; clear hp5 ht5 hc5 hc6)
  go_ret
  exact del_big HRT.out HG.out HIL.out HNN.out HP5.out HT5.out HC6.out

end Go.Proofs.YtffgkocokkhahaaDoor

/- (*tree).Delete whatever the tree. PRINTED BY wip/tpl/gen_yde.py. -/
namespace Go.Proofs.YtffgkocokkhahaaDoor
open Go.RowKit
variable {dsc : Bool}

/-- Delete, whatever the tree. -/
theorem del_any (t : Nat) (L : List XE) (S : Nat → Prop) (kA : Option Addr) (m p : Nat) (g : Nat) (ok : Bool) (cs : Nat → Int) (w : World) (hT : TreeAt (cmpV dsc) w t L S) (hlen : L.length ≤ 6400)
    (ha : Asks dsc w (.slice kA m p) L cs) (hp : Pos cs L.length g ok) :
    Calls Tryd.prog 40 #[.pointer (some ⟨t, 0, none⟩), .slice kA m p] w (DelP (cmpV dsc) t (if ok then L.eraseIdx g else L) S ok w) := by
  cases ok with
  | false =>
    cases hT with
    | none h => obtain ⟨ver, h⟩ := h; exact del_none t kA m p ver w h
    | lone hT => exact del_lone_miss t _ g L kA m p cs w hT ha hp
    | many hT =>
      rename_i x P
      have hP : P ≠ [] := by rintro rfl; have := hT.two; simp at this
      have hl := hT.pages
      obtain ⟨A, q, es, B, i, rfl, hg, hi, hi1⟩ := place P g hP hp.le
      exact del_many_miss hT (by omega) ha (root_pos rfl hg hi hi1 hT.one hp) (page_pos hg hi hp)
  | true =>
    cases hT with
    | none h => have := (hp.hit rfl).1; simp at this
    | lone hT =>
      have hg := (hp.hit rfl).1
      rcases Nat.lt_or_ge L.length 65 with h65 | h65
      · rcases Nat.lt_or_ge L.length 2 with h2 | h2
        · have h1 : L.length = 1 := by omega
          have e : L.eraseIdx g = [] := List.eq_nil_of_length_eq_zero (by rw [List.length_eraseIdx_of_lt hg]; omega)
          rw [if_pos rfl, e]
          exact del_lone_one t _ g L kA m p cs w hT ha hp h1
        · exact del_lone_mid t _ g L kA m p cs w hT ha hp h2 (by omega)
      · exact del_lone_big t _ g L kA m p cs w hT ha hp h65
    | many hT =>
      rename_i x P
      have hP : P ≠ [] := by rintro rfl; have := hT.two; simp at this
      have hl := hT.pages
      have hn := hT.one
      have hsz := hT.sizes
      obtain ⟨A, q, es, B, i, rfl, hg, hi, h1 | ⟨rfl, r, hr⟩⟩ := place_hit hn hP (hp.hit rfl).1
      · have hs := (hsz (q, es) (by simp)).1
        rcases Nat.lt_or_ge es.length 65 with h65 | h65
        · exact del_many_small hT (by omega) ha hg (root_in rfl hg hi h1 hn hp) (page_hit hg hi hp) (by simp at hs; omega)
        · exact del_many_big hT (by omega) ha hg (root_in rfl hg hi h1 hn hp) (page_hit hg hi hp) h65
      · have hs := (hsz (q, es) (by simp)).1
        have hp2 := hp
        rw [hg, Nat.add_zero] at hp2
        rcases Nat.lt_or_ge es.length 65 with h65 | h65
        · exact del_many_low hT (by omega) ha hg hr hp2 rfl (by simp at hs; omega)
        · exact del_many_top hT (by omega) ha hg hr hp2 rfl h65

end Go.Proofs.YtffgkocokkhahaaDoor

/- (*tree).Set of a key that is there, whatever the tree. -/
namespace Go.Proofs.YtffgkocokkhahaaDoor
open Go.RowKit
variable {dsc : Bool} {G : Value}

theorem put_grow {w w' : World} {t x q i g : Nat} {A B : List Pg} {es : List XE} {y e : XE} {sq : List Value} (h : Rooted G w t x (A ++ (q, es) :: B) (ents (A ++ (q, es) :: B)).length) (hq : PageAt w q es sq (hdp B (.pointer none)) (lastp (.pointer none) A)) (hg : g = (ents A).length + i) (hx : es[i]? = some y) {w1 : World} (hb : Below w.heap.size w w1)
    (hw : w' = w1.setCell ⟨q, 1 + i * 2 + 1, none⟩ (.slice e.B e.n e.q)) : GrowP G t ((ents (A ++ (q, es) :: B)).set g (y.put e)) (fun k => (k = t ∨ k = x) ∨ k ∈ Blocks (A ++ (q, es) :: B)) w (.returned (.tuple #[])) w' := by
  subst hw
  have hi := (List.getElem?_eq_some_iff.1 hx).1
  have hc : Chg (fun k => k = q) w (w1.setCell ⟨q, 1 + i * 2 + 1, none⟩ (.slice e.B e.n e.q)) := below_put (S := fun k => k = q) hb (q := q) rfl _
  have hR := h.put hc ⟨sq, put_page (e := e) (hq.below hb) hx rfl⟩ (by simp)
  have hE := ents_put (A := A) (B := B) (q := q) (y := y.put e) hg hi
  refine ⟨rfl, _, ?_, hc.mono (fun k _ hk => .inr (by rw [hk]; simp [Blocks])), fun k hk => .inl hk⟩
  rw [← hE]
  have hl : ((ents (A ++ (q, es) :: B)).length : Int) = (ents (A ++ (q, es.set i (y.put e)) :: B)).length := by rw [hE]; simp
  rw [hl] at hR
  have := TreeAt.many hR
  have e2 : Blocks (A ++ (q, es.set i (y.put e)) :: B) = Blocks (A ++ (q, es) :: B) := by simp [Blocks]
  rw [e2] at this
  exact this

section
variable {t x q i g : Nat} {A B : List Pg} {es : List XE} {e y : XE} {cs : Nat → Int} {w : World}

set_option maxRecDepth 100000 in
set_option maxHeartbeats 1600000 in
theorem put_root {r : Nat} (hR : Rooted (cmpV dsc) w t x (A ++ (q, es) :: B) (ents (A ++ (q, es) :: B)).length) (hlen : (A ++ (q, es) :: B).length ≤ 200)
    (ha : Asks dsc w (.slice e.A e.m e.p) (ents (A ++ (q, es) :: B)) cs) (hr : A.length = r + 1) (hy : es[0]? = some y) (hp : Pos cs (ents (A ++ (q, es) :: B)).length (ents A).length true) :
    Calls Tryd.prog 37 #[.pointer (some ⟨t, 0, none⟩), .slice e.A e.m e.p, .slice e.B e.n e.q] w
      (GrowP (cmpV dsc) t ((ents (A ++ (q, es) :: B)).set (ents A).length (y.put e)) (fun k => (k = t ∨ k = x) ∨ k ∈ Blocks (A ++ (q, es) :: B)) w) := by
  have HFX := find_top hR hlen ha (root_hit rfl hr rfl (hR.one (q, es) (by simp)) hR.one hp)
  obtain ⟨ver, b0, bs, xr, sq, ht, hx, _, hq, hbq, _, _, _, _⟩ := hR.at_
  have hbq2 : bs[r]? = some q := by rw [hr] at hbq; simpa using hbq
  have hcx : w.cell? ⟨x, 1 + r * 2 + 1, none⟩ = some (.pointer (some ⟨q, 0, none⟩)) := hx.sep hbq2
  have cv : w.cell? ⟨q, 2, none⟩ = some (.slice y.B y.n y.q) := (hq.cell _).trans (pgL_at XE.cells 2 XE.two es sq _ 0 1 y _ hy (by omega) rfl)
  have fv : w.frozen? ⟨q, 2, none⟩ = false := hq.free _
  have ct4 : w.cell? ⟨t, 4, none⟩ = some (.iface 126 (.pointer (some ⟨x, 0, none⟩))) := cell_of_heap ht 4
  have lt := lt_of_heap ht
  have lx := hx.lt
  have lq := hq.lt
  simp only [List.length_append, List.length_cons] at hlen
  have hk1 : (r : Int) < 258 := by omega
  have hk2 : (0 : Int) ≤ r := by omega
  have HF := Lib.hid (fun (w1 w' : World) (hb : Below w.heap.size w w1) (hw : w' = w1.setCell ⟨q, 2, none⟩ (.slice e.B e.n e.q)) => put_grow (e := e) hR hq (g := (ents A).length) (i := 0) rfl hy hb hw)
  clear hR hq ht ha hx hbq hbq2 hr hp hy
  go_enter Tryd.func37, Tryd.ntmps37
  go_wp2_with fail
  refine wp_loop_rounds 1 ?_
  rw [rounds_succ]
  go_wp2_with (go_at_call 70; refine (HFX.out _ (Below.refl _ _)).mono ?_; rintro y w1 ⟨rfl, hb1⟩; have HB1 := Lib.hid hb1; clear hb1)
  obtain ⟨wa, hwa⟩ : ∃ wz, wz = w1.alloc (.cells #[.int .i64 r] 3) := ⟨_, rfl⟩
  rw [← hwa]
  have ci : wa.cell? ⟨w1.heap.size, 0, none⟩ = some (.int .i64 r) := by rw [hwa]; exact cell_of_heap (heap_new w1 _) 0
  have HBA := Lib.hid (show Below w.heap.size w wa by rw [hwa]; exact HB1.out.alloc HB1.out.size _)
  have dx := (HBA.out.cell (p := ⟨x, 1 + r * 2 + 1, none⟩) lx).trans hcx
  clear hwa
  go_still_tail 12, (by kernel_rfl)
  obtain ⟨w2, hw2⟩ : ∃ wz, wz = wa.drew := ⟨_, rfl⟩
  change wpList _ _ _ _ _ wa.drew
  rw [← hw2]
  have HB2 := Lib.hid (show Below w.heap.size w w2 by rw [hw2]; exact HBA.out.drew)
  have dv : w2.cell? ⟨q, 2, none⟩ = some (.slice y.B y.n y.q) := (HB2.out.cell (p := ⟨q, 2, none⟩) lq).trans cv
  have gv : w2.frozen? ⟨q, 2, none⟩ = false := (HB2.out.frozen (p := ⟨q, 2, none⟩) lq).trans fv
  clear hw2 ci dx
  go_wp2
  go_end0
  exact HF.out w2 _ HB2.out rfl

set_option maxRecDepth 100000 in
set_option maxHeartbeats 1600000 in
theorem put_leaf (hR : Rooted (cmpV dsc) w t x (A ++ (q, es) :: B) (ents (A ++ (q, es) :: B)).length) (hlen : (A ++ (q, es) :: B).length ≤ 200)
    (ha : Asks dsc w (.slice e.A e.m e.p) (ents (A ++ (q, es) :: B)) cs) (hg : g = (ents A).length + i)
    (hpr : Pos (fun t => cs (ents ((A ++ (q, es) :: B).take (t + 1))).length) (heads (A ++ (q, es) :: B).tail).length A.length false) (hpl : Pos (fun r => cs ((ents A).length + r)) es.length i true) (hy : es[i]? = some y) :
    Calls Tryd.prog 37 #[.pointer (some ⟨t, 0, none⟩), .slice e.A e.m e.p, .slice e.B e.n e.q] w
      (GrowP (cmpV dsc) t ((ents (A ++ (q, es) :: B)).set g (y.put e)) (fun k => (k = t ∨ k = x) ∨ k ∈ Blocks (A ++ (q, es) :: B)) w) := by
  have HFX := find_top hR hlen ha hpr
  have HFL := find_page hR ha hpl
  have hsz : es.length ≤ 128 := (hR.sizes (q, es) (by simp)).2
  obtain ⟨ver, b0, bs, xr, sq, ht, hx, _, hq, _, hlb, cx0, hcx, _⟩ := hR.at_
  have ct4 : w.cell? ⟨t, 4, none⟩ = some (.iface 126 (.pointer (some ⟨x, 0, none⟩))) := cell_of_heap ht 4
  have lt := lt_of_heap ht
  have lx := hx.lt
  have lq := hq.lt
  simp only [List.length_append, List.length_cons] at hlen
  have hi := (List.getElem?_eq_some_iff.1 hy).1
  have hi1 : (i : Int) < 129 := by omega
  have hi2 : (0 : Int) ≤ i := by omega
  have cv : w.cell? ⟨q, 1 + i * 2 + 1, none⟩ = some (.slice y.B y.n y.q) := (hq.cell _).trans (pgL_at XE.cells 2 XE.two es sq _ i 1 y _ hy (by omega) rfl)
  have fv : w.frozen? ⟨q, 1 + i * 2 + 1, none⟩ = false := hq.free _
  have HF := Lib.hid (fun (w1 w' : World) (hb : Below w.heap.size w w1) (hw : w' = w1.setCell ⟨q, 1 + i * 2 + 1, none⟩ (.slice e.B e.n e.q)) => put_grow (e := e) hR hq hg hy hb hw)
  obtain ⟨k, hk⟩ : ∃ k, k = A.length := ⟨_, rfl⟩
  rw [← hk] at hcx HFX
  have hk1 : (k : Int) < 258 := by omega
  have hk2 : (0 : Int) ≤ k := by omega
  obtain ⟨bl, hbl⟩ : ∃ bl, bl = bs.length := ⟨_, rfl⟩
  rw [← hbl] at cx0
  have hbc : (256 < (bl : Int)) = False := by simp; omega
  clear hR hq ht ha hpr hpl hx hk hy hg hi hbl hlb hlen
  go_enter Tryd.func37, Tryd.ntmps37
  go_wp2_with fail
  refine wp_loop_rounds 2 ?_
  rw [rounds_succ]
  go_wp2_with (go_at_call 70; refine (HFX.out _ (Below.refl _ _)).mono ?_; rintro y w1 ⟨rfl, hb1⟩; have HB1 := Lib.hid hb1; have dx0 := (hb1.cell (p := ⟨x, 0, none⟩) lx).trans cx0; have lx1 : x < w1.heap.size := (by have := hb1.size; omega); clear hb1)
  obtain ⟨wa, hwa⟩ : ∃ wa, wa = (w1.alloc (.cells #[.int .i64 k] 3)).alloc (.cells #[.pointer (some ⟨x, 0, none⟩)] 126) := ⟨_, rfl⟩
  rw [← hwa]
  have hba : Below w1.heap.size w1 wa := by rw [hwa]; exact ((Below.refl _ _).alloc (Nat.le_refl _) _).alloc (by simp) _
  have ci : wa.cell? ⟨w1.heap.size, 0, none⟩ = some (.int .i64 k) := by rw [hwa]; exact cell_of_heap (heap_old (heap_new w1 _) _) 0
  have cx : wa.cell? ⟨w1.heap.size + 1, 0, none⟩ = some (.pointer (some ⟨x, 0, none⟩)) := by
    have h := heap_new (w1.alloc (.cells #[.int .i64 k] 3)) (.cells #[.pointer (some ⟨x, 0, none⟩)] 126)
    have e1 : (w1.alloc (.cells #[.int .i64 k] 3)).heap.size = w1.heap.size + 1 := by simp
    rw [e1, ← hwa] at h
    exact cell_of_heap h 0
  have HBA := Lib.hid (up_below' HB1.out hba)
  have dxk := (HBA.out.cell (p := ⟨x, 1 + k * 2, none⟩) lx).trans hcx
  clear hwa hba dx0 hbc hcx cx0 ct4
  go_still_tail 7, (by kernel_rfl)
  obtain ⟨w2, hw2⟩ : ∃ w2, w2 = wa.drew := ⟨_, rfl⟩
  change wpList _ _ _ _ _ wa.drew
  rw [← hw2]
  have HB2 := Lib.hid (show Below w.heap.size w w2 by rw [hw2]; exact HBA.out.drew)
  clear hw2 dxk ci cx
  go_wp2_with fail
  rw [rounds_succ]
  go_wp2_with (go_at_call 70; refine (HFL.out _ HB2.out).mono ?_; rintro y w3 ⟨rfl, hb3⟩; have HB3 := Lib.hid (up_below' HB2.out hb3); clear hb3)
  obtain ⟨wb, hwb⟩ : ∃ wz, wz = w3.alloc (.cells #[.int .i64 i] 3) := ⟨_, rfl⟩
  rw [← hwb]
  have cj : wb.cell? ⟨w3.heap.size, 0, none⟩ = some (.int .i64 i) := by rw [hwb]; exact cell_of_heap (heap_new w3 _) 0
  have HBB := Lib.hid (show Below w.heap.size w wb by rw [hwb]; exact HB3.out.alloc HB3.out.size _)
  have dv : wb.cell? ⟨q, 1 + i * 2 + 1, none⟩ = some (.slice y.B y.n y.q) := (HBB.out.cell (p := ⟨q, 1 + i * 2 + 1, none⟩) lq).trans cv
  have gv : wb.frozen? ⟨q, 1 + i * 2 + 1, none⟩ = false := (HBB.out.frozen (p := ⟨q, 1 + i * 2 + 1, none⟩) lq).trans fv
  clear hwb
  go_still_tail 7, (by kernel_rfl)
  obtain ⟨wc, hwc⟩ : ∃ wz, wz = wb.drew := ⟨_, rfl⟩
  change wpList _ _ _ _ _ wb.drew
  rw [← hwc]
  have HBC := Lib.hid (show Below w.heap.size w wc by rw [hwc]; exact HBB.out.drew)
  replace dv : wc.cell? ⟨q, 1 + i * 2 + 1, none⟩ = some (.slice y.B y.n y.q) := (HBC.out.cell (p := ⟨q, 1 + i * 2 + 1, none⟩) lq).trans cv
  replace gv : wc.frozen? ⟨q, 1 + i * 2 + 1, none⟩ = false := (HBC.out.frozen (p := ⟨q, 1 + i * 2 + 1, none⟩) lq).trans fv
  clear hwc cj
  go_wp2
  go_end0
  exact HF.out wc _ HBC.out rfl
end

/-- Set of a key that is there. -/
theorem put_any (t : Nat) (L : List XE) (S : Nat → Prop) (e y : XE) (g : Nat) (cs : Nat → Int) (w : World) (hT : TreeAt (cmpV dsc) w t L S) (hlen : L.length ≤ 12800)
    (ha : Asks dsc w (.slice e.A e.m e.p) L cs) (hp : Pos cs L.length g true) (hy : L[g]? = some y) :
    Calls Tryd.prog 37 #[.pointer (some ⟨t, 0, none⟩), .slice e.A e.m e.p, .slice e.B e.n e.q] w (GrowP (cmpV dsc) t (L.set g (y.put e)) S w) := by
  cases hT with
  | none h => simp at hy
  | lone hT => exact put_lone t _ g L e y cs w hT hy ha hp
  | many hT =>
    rename_i x P
    have hP : P ≠ [] := by rintro rfl; have := hT.two; simp at this
    have hl := hT.pages
    have hn := hT.one
    obtain ⟨A, q, es, B, i, rfl, hg, hi, h1 | ⟨rfl, r, hr⟩⟩ := place_hit hn hP (hp.hit rfl).1
    · exact put_leaf hT (by omega) ha hg (root_in rfl hg hi h1 hn hp) (page_hit hg hi hp) (ents_get hg hi hy)
    · have hy0 := ents_get hg hi hy
      have hg2 : g = (ents A).length := by omega
      subst hg2
      exact put_root hT (by omega) ha hr hy0 hp

end Go.Proofs.YtffgkocokkhahaaDoor
