/-
  laws.extreme of impl.Max: it returns true. PRINTED BY wip/tpl/gen_ex.py.
-/
import Derived.Test.YtiijcmdfbgoafaaDoorMg
import Derived.Test.YtiijcmdfbgoafaaDoorBw
namespace Go.Proofs.YtiijcmdfbgoafaaDoor
open Go.RowKit

theorem same_v (x z : VV) (w : World) : Calls Tryd.prog 19 #[.agg #[.string x.k, .int .i64 x.n, .int .u64 x.u, .float .f64 x.f, .string x.s], .agg #[.string z.k, .int .i64 z.n, .int .u64 z.u, .float .f64 z.f, .string z.s]] w fun e w' => e = .returned (.bool (x.same z)) ∧ Below w.heap.size w w' :=
  same_any x.k x.n x.u x.f x.s z.k z.n z.u z.f z.s w

theorem same_nulls (w : World) : Calls Tryd.prog 19 #[.agg #[.string nulV.k, .int .i64 nulV.n, .int .u64 nulV.u, .float .f64 nulV.f, .string nulV.s], .agg #[.string ⟨#[]⟩, .int .i64 0, .int .u64 0, .float .f64 0, .string ⟨#[]⟩]] w fun e w' => e = .returned (.bool true) ∧ Below w.heap.size w w' := by
  have h := same_v nulV nulV w
  rw [show nulV.same nulV = true from by decide +kernel] at h
  exact h

/-- What beyond says of two values is one number, in every world. -/
theorem be_one (x z : VV) (h : NotAbove x.n x.u x.f x.s z.n z.u z.f z.s) : ∃ c : Int, (c = 0 ∨ c = -1) ∧ ∀ w, Calls Tryd.prog 39 #[.agg #[.string x.k, .int .i64 x.n, .int .u64 x.u, .float .f64 x.f, .string x.s], .agg #[.string z.k, .int .i64 z.n, .int .u64 z.u, .float .f64 z.f, .string z.s]] w fun e w' => e = .returned (.int .i64 c) ∧ Below w.heap.size w w' :=
  be_all x.k x.n x.u x.f x.s z.k z.n z.u z.f z.s h

def anyB (m : List VV) (k : Nat) (v : VV) : Bool := (m.take k).any fun x => x.same v
theorem anyB_step {m : List VV} {k : Nat} {x v : VV} (h : m[k]? = some x) : anyB m (k + 1) v = (anyB m k v || x.same v) := by
  unfold anyB
  rw [List.take_add_one, h, List.any_append]
  simp

set_option maxRecDepth 100000 in
set_option maxHeartbeats 1000000 in
theorem extreme_any (l m : List VV) (A : Option Addr) (p : Nat) (hm : m.length ≤ 2147483647) (w : World) (HW : Hid (∀ w', Below w.heap.size w w' → Calls Tryd.prog 38 #[.slice A l.length p] w' fun e w'' => ∃ A' c', e = .returned (.slice A' m.length c') ∧ LAt w'' A' m ∧ Below w'.heap.size w' w'')) (HM : Hid (∀ w', Below w.heap.size w w' → Calls Tryd.prog 23 #[.slice A l.length p] w' fun e w'' => ∃ v, Top m v ∧ e = .returned (.tuple #[.agg #[.string v.k, .int .i64 v.n, .int .u64 v.u, .float .f64 v.f, .string v.s], .int .i64 0]) ∧ Below w'.heap.size w' w'')) :
    Calls Tryd.prog 26 #[.slice A l.length p, .func (.func 23) #[] #[], .int .i64 1] w fun e w' => e = .returned (.bool true) ∧ Below w.heap.size w w' := by
  obtain ⟨n, hn⟩ : ∃ n, n = m.length := ⟨_, rfl⟩
  have HN := Lib.hid hn
  rw [← hn] at HW hm
  clear hn
  by_cases h0 : n = 0
  · subst h0
    have HE : m = [] := List.eq_nil_of_length_eq_zero HN.out.symm
    go_enter Tryd.func26, Tryd.ntmps26
    go_wp2_with (first | (go_at_call 38; refine (HW.out _ (Below.refl _ _)).mono ?_; rintro e w1 ⟨A', c', rfl, hm1, hb1⟩; have HL := Lib.hid hm1; clear hm1; have hy1 := hb1.size) | (go_at_call 23; refine (HM.out _ hb1).mono ?_; rintro e w2 ⟨v, ht, rfl, hb2⟩; obtain rfl := ht.no HE; clear ht; have hB2 := up_below' hb1 hb2; have hy2 := hb2.size))
    refine wp_region_bw (by kernel_rfl) (by kernel_rfl) ?_
    repeat (go_big_quiet_step ((first | (go_at_call 21; exact bw_of (null_any _)) | (go_at_call 19; exact bw_of (same_nulls _)))))
    refine wpQuiet_nil ?_
    intro _ hw'
    obtain ⟨pq, hw''⟩ := hw'
    subst hw''
    go_wp2
    go_ret
    exact ⟨rfl, up_below' (hB2.alloc hB2.size _) pq.h⟩
  · have HE := Lib.hid (show m ≠ [] from fun h => h0 (by rw [HN.out, h]; rfl))
    go_enter Tryd.func26, Tryd.ntmps26
    go_wp2_with (first | (go_at_call 38; refine (HW.out _ (Below.refl _ _)).mono ?_; rintro e w1 ⟨A', c', rfl, hm1, hb1⟩; have HL := Lib.hid hm1; clear hm1; have hy1 := hb1.size) | (go_at_call 23; refine (HM.out _ hb1).mono ?_; rintro e w2 ⟨v, ht, rfl, hb2⟩; have HT := Lib.hid ht; clear ht; have hB2 := up_below' hb1 hb2; have hy2 := hb2.size))
    have HB7 := Lib.hid (hB2.alloc hB2.size (.cells #[.string v.k, .int .i64 v.n, .int .u64 v.u, .float .f64 v.f, .string v.s] 30))
    have HL7 := Lib.hid ((HL.out.below hb2).below ((Below.refl _ _).alloc (Nat.le_refl _) (.cells #[.string v.k, .int .i64 v.n, .int .u64 v.u, .float .f64 v.f, .string v.s] 30)))
    have x0 : (w2.alloc (.cells #[.string v.k, .int .i64 v.n, .int .u64 v.u, .float .f64 v.f, .string v.s] 30)).cell? ⟨w2.heap.size, 0, none⟩ = some (Value.string v.k) := World.cell?_alloc_mark w2 _ _ (0, 0) 0
    have x1 : (w2.alloc (.cells #[.string v.k, .int .i64 v.n, .int .u64 v.u, .float .f64 v.f, .string v.s] 30)).cell? ⟨w2.heap.size, 1, none⟩ = some (Value.int .i64 v.n) := World.cell?_alloc_mark w2 _ _ (0, 0) 1
    have x2 : (w2.alloc (.cells #[.string v.k, .int .i64 v.n, .int .u64 v.u, .float .f64 v.f, .string v.s] 30)).cell? ⟨w2.heap.size, 2, none⟩ = some (Value.int .u64 v.u) := World.cell?_alloc_mark w2 _ _ (0, 0) 2
    have x3 : (w2.alloc (.cells #[.string v.k, .int .i64 v.n, .int .u64 v.u, .float .f64 v.f, .string v.s] 30)).cell? ⟨w2.heap.size, 3, none⟩ = some (Value.float .f64 v.f) := World.cell?_alloc_mark w2 _ _ (0, 0) 3
    have x4 : (w2.alloc (.cells #[.string v.k, .int .i64 v.n, .int .u64 v.u, .float .f64 v.f, .string v.s] 30)).cell? ⟨w2.heap.size, 4, none⟩ = some (Value.string v.s) := World.cell?_alloc_mark w2 _ _ (0, 0) 4
    have hs7 : w2.heap.size < (w2.alloc (.cells #[.string v.k, .int .i64 v.n, .int .u64 v.u, .float .f64 v.f, .string v.s] 30)).heap.size := by simp
    obtain ⟨W, hW⟩ : ∃ W', W' = (w2.alloc (.cells #[.string v.k, .int .i64 v.n, .int .u64 v.u, .float .f64 v.f, .string v.s] 30)) := ⟨_, rfl⟩
    rw [← hW] at x0 x1 x2 x3 x4 hs7 HB7 HL7 ⊢
    clear hW
    obtain ⟨b8, h8⟩ : ∃ b, b = w2.heap.size := ⟨_, rfl⟩
    rw [← h8] at x0 x1 x2 x3 x4 hs7 ⊢
    clear h8
    have HX := Lib.hid (And.intro x0 (And.intro x1 (And.intro x2 (And.intro x3 x4))))
    clear x0 x1 x2 x3 x4
    go_loopw [10, 32] (fun q i wr => ∃ k : Nat, k ≤ n ∧ i = .int .i64 k ∧ q = .bool (anyB m k v) ∧ Below W.heap.size W wr) (fun _ i _ => n - (intOf i).toNat)
    case atStart => exact ⟨0, by omega, rfl, rfl, Below.refl _ _⟩
    case round =>
      obtain ⟨k, hk, rfl, rfl, hb⟩ := hrel
      have HB := Lib.hid hb
      have hsr := hb.size
      by_cases hlt : k < n
      · obtain ⟨x, hx'⟩ : ∃ x, m[k]? = some x := ⟨_, List.getElem?_eq_getElem (by rw [← HN.out]; exact hlt)⟩
        obtain ⟨c, hc01, hbe⟩ := be_one x v (HT.out.top x (List.mem_of_getElem? hx'))
        have HBE := Lib.hid hbe
        have HS := Lib.hid (anyB_step (v := v) hx')
        obtain ⟨ad, rfl, hbl, h0', h1, h2, h3, h4⟩ := (HL7.out.below hb) k x hx'
        clear hx' hbe
        obtain ⟨x0, x1, x2, x3, x4⟩ := HX.out
        have y0 := (HB.out.cell (p := ⟨b8, 0, none⟩) hs7).trans x0
        have y1 := (HB.out.cell (p := ⟨b8, 1, none⟩) hs7).trans x1
        have y2 := (HB.out.cell (p := ⟨b8, 2, none⟩) hs7).trans x2
        have y3 := (HB.out.cell (p := ⟨b8, 3, none⟩) hs7).trans x3
        have y4 := (HB.out.cell (p := ⟨b8, 4, none⟩) hs7).trans x4
        have hb8 : b8 < wr.heap.size := by omega
        have z0 : ∀ q : BW wr, q.w.cell? ⟨b8, 0, none⟩ = some (Value.string v.k) := fun q => (q.h.cell (p := ⟨b8, 0, none⟩) hb8).trans y0
        have z1 : ∀ q : BW wr, q.w.cell? ⟨b8, 1, none⟩ = some (Value.int .i64 v.n) := fun q => (q.h.cell (p := ⟨b8, 1, none⟩) hb8).trans y1
        have z2 : ∀ q : BW wr, q.w.cell? ⟨b8, 2, none⟩ = some (Value.int .u64 v.u) := fun q => (q.h.cell (p := ⟨b8, 2, none⟩) hb8).trans y2
        have z3 : ∀ q : BW wr, q.w.cell? ⟨b8, 3, none⟩ = some (Value.float .f64 v.f) := fun q => (q.h.cell (p := ⟨b8, 3, none⟩) hb8).trans y3
        have z4 : ∀ q : BW wr, q.w.cell? ⟨b8, 4, none⟩ = some (Value.string v.s) := fun q => (q.h.cell (p := ⟨b8, 4, none⟩) hb8).trans y4
        have p0 : ∀ q : BW wr, q.w.cell? (ad.add (k * 5)) = some (.string x.k) := fun q => (q.h.cell hbl).trans h0'
        have p1 : ∀ q : BW wr, q.w.cell? ⟨(ad.add (k * 5)).block, (ad.add (k * 5)).off + 1, none⟩ = some (.int .i64 x.n) := fun q => (q.h.cell (by exact hbl)).trans h1
        have p2 : ∀ q : BW wr, q.w.cell? ⟨(ad.add (k * 5)).block, (ad.add (k * 5)).off + 2, none⟩ = some (.int .u64 x.u) := fun q => (q.h.cell (by exact hbl)).trans h2
        have p3 : ∀ q : BW wr, q.w.cell? ⟨(ad.add (k * 5)).block, (ad.add (k * 5)).off + 3, none⟩ = some (.float .f64 x.f) := fun q => (q.h.cell (by exact hbl)).trans h3
        have p4 : ∀ q : BW wr, q.w.cell? ⟨(ad.add (k * 5)).block, (ad.add (k * 5)).off + 4, none⟩ = some (.string x.s) := fun q => (q.h.cell (by exact hbl)).trans h4
        clear hb
        cases hq : anyB m k v with
        | true =>
          have hS := Lib.hid (show anyB m (k + 1) v = true by rw [HS.out, hq]; rfl)
          clear hq
          go_wp2
          refine wp_region_bw (by kernel_rfl) (by kernel_rfl) ?_
          repeat (go_big_quiet_step ((first | (go_at_call 19; exact bw_of (same_v x v _)))))
          refine wpQuiet_nil ?_
          intro _ hw'
          obtain ⟨pq, hw''⟩ := hw'
          subst hw''
          have hsp := pq.h.size
          have r0 : ∀ q : BW pq.w, q.w.cell? (ad.add (k * 5)) = some (.string x.k) := fun q => (q.h.cell (Nat.lt_of_lt_of_le hbl hsp)).trans (p0 pq)
          have r1 : ∀ q : BW pq.w, q.w.cell? ⟨(ad.add (k * 5)).block, (ad.add (k * 5)).off + 1, none⟩ = some (.int .i64 x.n) := fun q => (q.h.cell (by exact Nat.lt_of_lt_of_le hbl hsp)).trans (p1 pq)
          have r2 : ∀ q : BW pq.w, q.w.cell? ⟨(ad.add (k * 5)).block, (ad.add (k * 5)).off + 2, none⟩ = some (.int .u64 x.u) := fun q => (q.h.cell (by exact Nat.lt_of_lt_of_le hbl hsp)).trans (p2 pq)
          have r3 : ∀ q : BW pq.w, q.w.cell? ⟨(ad.add (k * 5)).block, (ad.add (k * 5)).off + 3, none⟩ = some (.float .f64 x.f) := fun q => (q.h.cell (by exact Nat.lt_of_lt_of_le hbl hsp)).trans (p3 pq)
          have r4 : ∀ q : BW pq.w, q.w.cell? ⟨(ad.add (k * 5)).block, (ad.add (k * 5)).off + 4, none⟩ = some (.string x.s) := fun q => (q.h.cell (by exact Nat.lt_of_lt_of_le hbl hsp)).trans (p4 pq)
          have hb9 : b8 < pq.w.heap.size := by omega
          have t0 : ∀ q : BW pq.w, q.w.cell? ⟨b8, 0, none⟩ = some (Value.string v.k) := fun q => (q.h.cell (p := ⟨b8, 0, none⟩) hb9).trans (z0 pq)
          have t1 : ∀ q : BW pq.w, q.w.cell? ⟨b8, 1, none⟩ = some (Value.int .i64 v.n) := fun q => (q.h.cell (p := ⟨b8, 1, none⟩) hb9).trans (z1 pq)
          have t2 : ∀ q : BW pq.w, q.w.cell? ⟨b8, 2, none⟩ = some (Value.int .u64 v.u) := fun q => (q.h.cell (p := ⟨b8, 2, none⟩) hb9).trans (z2 pq)
          have t3 : ∀ q : BW pq.w, q.w.cell? ⟨b8, 3, none⟩ = some (Value.float .f64 v.f) := fun q => (q.h.cell (p := ⟨b8, 3, none⟩) hb9).trans (z3 pq)
          have t4 : ∀ q : BW pq.w, q.w.cell? ⟨b8, 4, none⟩ = some (Value.string v.s) := fun q => (q.h.cell (p := ⟨b8, 4, none⟩) hb9).trans (z4 pq)
          go_wp2
          rcases hc01 with rfl | rfl
          all_goals
            refine wp_region_bw (by kernel_rfl) (by kernel_rfl) ?_
            repeat (go_big_quiet_step ((first | (go_at_call 39; exact bw_of (HBE.out _)))))
            refine wpQuiet_nil ?_
            intro _ hw'
            obtain ⟨pr, hw''⟩ := hw'
            subst hw''
            go_wp2
            exact ⟨⟨k + 1, by omega, by push_cast; rfl, by rw [hS.out], (HB.out.trans (pq.h.mono hsr)).trans (pr.h.mono (by omega))⟩, by simp [intOf]; omega⟩
        | false =>
          have hS := Lib.hid (show anyB m (k + 1) v = x.same v by rw [HS.out, hq]; rfl)
          clear hq
          go_wp2
          refine wp_region_bw (by kernel_rfl) (by kernel_rfl) ?_
          repeat (go_big_quiet_step ((first | (go_at_call 19; exact bw_of (same_v x v _)))))
          refine wpQuiet_nil ?_
          intro _ hw'
          obtain ⟨pq, hw''⟩ := hw'
          subst hw''
          have hsp := pq.h.size
          have r0 : ∀ q : BW pq.w, q.w.cell? (ad.add (k * 5)) = some (.string x.k) := fun q => (q.h.cell (Nat.lt_of_lt_of_le hbl hsp)).trans (p0 pq)
          have r1 : ∀ q : BW pq.w, q.w.cell? ⟨(ad.add (k * 5)).block, (ad.add (k * 5)).off + 1, none⟩ = some (.int .i64 x.n) := fun q => (q.h.cell (by exact Nat.lt_of_lt_of_le hbl hsp)).trans (p1 pq)
          have r2 : ∀ q : BW pq.w, q.w.cell? ⟨(ad.add (k * 5)).block, (ad.add (k * 5)).off + 2, none⟩ = some (.int .u64 x.u) := fun q => (q.h.cell (by exact Nat.lt_of_lt_of_le hbl hsp)).trans (p2 pq)
          have r3 : ∀ q : BW pq.w, q.w.cell? ⟨(ad.add (k * 5)).block, (ad.add (k * 5)).off + 3, none⟩ = some (.float .f64 x.f) := fun q => (q.h.cell (by exact Nat.lt_of_lt_of_le hbl hsp)).trans (p3 pq)
          have r4 : ∀ q : BW pq.w, q.w.cell? ⟨(ad.add (k * 5)).block, (ad.add (k * 5)).off + 4, none⟩ = some (.string x.s) := fun q => (q.h.cell (by exact Nat.lt_of_lt_of_le hbl hsp)).trans (p4 pq)
          have hb9 : b8 < pq.w.heap.size := by omega
          have t0 : ∀ q : BW pq.w, q.w.cell? ⟨b8, 0, none⟩ = some (Value.string v.k) := fun q => (q.h.cell (p := ⟨b8, 0, none⟩) hb9).trans (z0 pq)
          have t1 : ∀ q : BW pq.w, q.w.cell? ⟨b8, 1, none⟩ = some (Value.int .i64 v.n) := fun q => (q.h.cell (p := ⟨b8, 1, none⟩) hb9).trans (z1 pq)
          have t2 : ∀ q : BW pq.w, q.w.cell? ⟨b8, 2, none⟩ = some (Value.int .u64 v.u) := fun q => (q.h.cell (p := ⟨b8, 2, none⟩) hb9).trans (z2 pq)
          have t3 : ∀ q : BW pq.w, q.w.cell? ⟨b8, 3, none⟩ = some (Value.float .f64 v.f) := fun q => (q.h.cell (p := ⟨b8, 3, none⟩) hb9).trans (z3 pq)
          have t4 : ∀ q : BW pq.w, q.w.cell? ⟨b8, 4, none⟩ = some (Value.string v.s) := fun q => (q.h.cell (p := ⟨b8, 4, none⟩) hb9).trans (z4 pq)
          go_wp2
          rcases hc01 with rfl | rfl
          all_goals
            refine wp_region_bw (by kernel_rfl) (by kernel_rfl) ?_
            repeat (go_big_quiet_step ((first | (go_at_call 39; exact bw_of (HBE.out _)))))
            refine wpQuiet_nil ?_
            intro _ hw'
            obtain ⟨pr, hw''⟩ := hw'
            subst hw''
            go_wp2
            exact ⟨⟨k + 1, by omega, by push_cast; rfl, by rw [hS.out], (HB.out.trans (pq.h.mono hsr)).trans (pr.h.mono (by omega))⟩, by simp [intOf]; omega⟩
      · have hke : k = n := by omega
        subst hke
        have hq : anyB m k v = true := by
          unfold anyB
          rw [HN.out, List.take_length, List.any_eq_true]
          exact HT.out.is HE.out
        rw [hq]
        clear hq
        go_wp2
        go_ret
        exact ⟨rfl, up_below' HB7.out HB.out⟩

end Go.Proofs.YtiijcmdfbgoafaaDoor
