/-
  impl.over of max, and impl.Max. PRINTED BY wip/tpl/gen_ox.py.
-/
import Derived.Test.YtiijcmdfbgoafaaDoorMz
import Derived.Test.YtiijcmdfbgoafaaDoorOvc
namespace Go.Proofs.YtiijcmdfbgoafaaDoor
open Go.RowKit

/-- The greatest, or NULL. -/
def bestV (l : List VV) : SV := (best l l.length).getD .null

def OxPost (l : List VV) (w : World) (e : Ending) (w' : World) : Prop :=
  ∃ g, FOut (bestV l) g ∧ e = .returned (.tuple #[.agg #[.string (bestV l).nm, .int .i64 (bestV l).oN, .int .u64 (bestV l).oU, .float .f64 g, .string (bestV l).oS], .int .i64 0]) ∧ Below w.heap.size w w'

theorem is_sv {x : VV} (hc : x.conc = true) : x.is x.sv := by
  have hn : numB x.f = true ∨ Kd.of x.k.toList ≠ .f32 := by
    unfold VV.conc concB at hc
    revert hc
    cases Kd.of x.k.toList <;> simp
  unfold VV.is SVof
  have hno : ¬ (Kd.of x.k.toList = .f32 ∧ numB x.f = false) := fun ⟨h1, h2⟩ => by
    rcases hn with h | h
    · rw [h] at h2; cases h2
    · exact h h1
  rw [if_neg hno]
  rfl
theorem best_ok {l : List VV} (hl : AggL l) {k : Nat} (hk : k ≤ l.length) : (∀ u, best l k = some u → u.agg = true ∧ u.plain) := fun u h => by
  obtain ⟨_, _, _, _, _, h1, h2⟩ := (best_at l hl k hk).is u h
  exact ⟨h1, h2⟩
theorem bestV_ok {l : List VV} (hl : AggL l) : (bestV l).wf ∧ (bestV l = .null ∨ (bestV l).agg = true) := by
  unfold bestV
  cases h : best l l.length with
  | none => exact ⟨trivial, .inl rfl⟩
  | some u =>
    obtain ⟨j, x, hx, _, rfl, h1, _⟩ := (best_at l hl _ (Nat.le_refl _)).is u h
    obtain ⟨hc, hr, _⟩ := hl j x hx
    exact ⟨toSV_wf hr (conc_valid hc) (is_sv hc), .inr h1⟩
theorem in_rep (x : VV) (hc : x.conc = true) (hr : Rng x.n x.u x.f) (ha : x.sv = .null ∨ x.sv.agg = true) (w : World) :
    Calls Tryd.prog 30 #[.agg #[.string x.k, .int .i64 x.n, .int .u64 x.u, .float .f64 x.f, .string x.s]] w fun e w' => ∃ v, repV x.sv = v ∧ (v = .nilIface ∨ ∃ t u, v = .iface t u) ∧ e = .returned v ∧ Below w.heap.size w w' :=
  (in2_any x ⟨hr, conc_valid hc⟩ w).mono fun _ _ ⟨v, _, he, hrep, hb, hs, _⟩ => ⟨v, (repV_of (rep_conc hc hs hrep).1 ha).symm, rep_form hrep, he, hb⟩

set_option maxRecDepth 100000 in
set_option maxHeartbeats 1000000 in
theorem over_max (l : List VV) (A : Option Addr) (c : Nat) (w : World) (hl : LAt w A l) (hagg : AggL l) (hm : l.length ≤ 2147483647) :
    Calls Tryd.prog 35 #[.func (.func 36) #[] #[], .slice A l.length c] w (OxPost l w) := by
  obtain ⟨len, hlen⟩ : ∃ len, len = l.length := ⟨_, rfl⟩
  have HL := Lib.hid hl
  have HN := Lib.hid hlen
  have HG := Lib.hid hagg
  have HT := Lib.hid (fun w v (h : repV (bestV l) = v) => told_ok (bestV l) (bestV_ok hagg).1 v w (by rw [← h]; exact rep_repV w (bestV_ok hagg).2))
  unfold OxPost
  rw [← hlen] at hm ⊢
  clear hl hlen hagg
  go_enter_defers Tryd.func35, Tryd.ntmps35
  have l0 := fun a c => upE_two w a c
  have lm := fun W => run_makeMap_plain (P := Tryd.prog) W 84
  go_wp2
  clear l0 lm
  go_loopw [17] (fun i wr => ∃ k : Nat, k ≤ len ∧ i = .int .i64 k ∧ Below ((w.alloc (.cells #[.string ⟨#[]⟩, .int .i64 0, .int .u64 0, .float .f64 0, .string ⟨#[]⟩] 30)).alloc (.cells #[.int .i64 0] 3)).heap.size ((w.alloc (.cells #[.string ⟨#[]⟩, .int .i64 0, .int .u64 0, .float .f64 0, .string ⟨#[]⟩] 30)).alloc (.cells #[.int .i64 0] 3)) wr ∧ wr.heap[w.heap.size + 1 + 1]? = some (mapM (mx (best l k)))) (fun i _ => len - (intOf i).toNat)
  case atStart =>
    refine ⟨0, by omega, rfl, (Below.refl _ _).alloc (Nat.le_refl _) _, ?_⟩
    have h := (MapKept.heap_alloc ((w.alloc (.cells #[.string ⟨#[]⟩, .int .i64 0, .int .u64 0, .float .f64 0, .string ⟨#[]⟩] 30)).alloc (.cells #[.int .i64 0] 3)) (mapM none)).1
    rw [show ((w.alloc (.cells #[.string ⟨#[]⟩, .int .i64 0, .int .u64 0, .float .f64 0, .string ⟨#[]⟩] 30)).alloc (.cells #[.int .i64 0] 3)).heap.size = w.heap.size + 1 + 1 by simp] at h
    exact h
  case round =>
    obtain ⟨k, hk, rfl, hb, hmap⟩ := hrel
    have HM := Lib.hid hmap
    clear hmap
    have hs := hb.size
    rw [show ((w.alloc (.cells #[.string ⟨#[]⟩, .int .i64 0, .int .u64 0, .float .f64 0, .string ⟨#[]⟩] 30)).alloc (.cells #[.int .i64 0] 3)).heap.size = w.heap.size + 1 + 1 by simp] at hs
    by_cases hlt : k < len
    · have hlt2 : k < l.length := by rw [← HN.out]; exact hlt
      obtain ⟨x, hx'⟩ : ∃ x, l[k]? = some x := ⟨_, List.getElem?_eq_getElem hlt2⟩
      obtain ⟨hxc, hxr, hxa⟩ := HG.out k x hx'
      have HX2 := Lib.hid (in_rep x hxc hxr hxa)
      have HA := Lib.hid hxa
      have HP := Lib.hid (conc_sv hxc).2
      have HO := Lib.hid (best_ok HG.out (Nat.le_of_lt hlt2))
      have hbw := (below_two w _ _).trans (hb.mono (below_two w _ _).size)
      obtain ⟨ad, rfl, hbl, h0, h1, h2, h3, h4⟩ := (HL.out.below hbw) k x hx'
      have HB := Lib.hid hb
      have HC := Lib.hid (best_step hx')
      clear hx' hlt2 hb hbw hxc hxr hxa
      go_wp2_with (first
        | (go_at_call 30; refine (HX2.out _).mono ?_; rintro e w1 ⟨v, hv, hform, rfl, hb1⟩; have HV := Lib.hid hv; have HB1 := Lib.hid hb1; clear hv hb1; rcases hform with rfl | ⟨tv, uv, rfl⟩)
        | (go_at_call 36
           refine (zzMax_step (best l k) HO.out x.sv HA.out HP.out (w.heap.size + 1 + 1) w1.heap.size 1 _ (map_step HM.out HB1.out) (by rw [HV.out]; simp)).mono ?_
           rintro e w3 ⟨rfl, hb3, hm3⟩
           have HB3 := Lib.hid hb3
           have HM3 := Lib.hid hm3
           clear hb3 hm3))
      all_goals
        refine ⟨⟨k + 1, by omega, by push_cast; rfl, (below_step HB.out HB1.out).trans (HB3.out.mono (by simp)), ?_⟩, by simp [intOf]; omega⟩
        rw [HC.out]
        exact HM3.out
    · have hke : k = len := by omega
      subst hke
      have hml := (Array.getElem?_eq_some_iff.1 HM.out).1
      have HB := Lib.hid hb
      clear hb
      by_cases hz : k = 0
      · subst hz
        have l1 := upM_agg none (w.heap.size + 1 + 1) wr HM.out
        have l2 := upA_agg0 (w.heap.size + 1 + 1) (setMap wr (w.heap.size + 1 + 1) (mapA none)) (setMap_at hml _)
        have HZ := Lib.hid (setMap_at (w := setMap wr (w.heap.size + 1 + 1) (mapA none)) (b := w.heap.size + 1 + 1) (by rw [setMap_size]; exact hml) mapZ)
        have HE := Lib.hid (show repV (bestV l) = (none : Option Value).getD .nilIface by unfold bestV; rw [← HN.out]; rfl)
        go_wp2_with (first
          | (go_at_call 36
             refine (zzMax_Z (w.heap.size + 1 + 1) _ _ (block_below HZ.out ((Below.refl _ _).alloc (Nat.le_refl _) _))).mono ?_
             rintro e w2 ⟨rfl, rfl⟩)
          | (go_at_call 28
             refine (HT.out _ _ HE.out).mono ?_
             rintro e w2 ⟨g, hfo, rfl, hb2⟩
             have HF := Lib.hid hfo
             clear hfo
             have hbz := up_below ((Below.setMap (Below.setMap HB.out (by simp) _) (by simp) _).alloc (by simp [setMap_size]; omega) _) (Nat.le_refl _) hb2
             obtain ⟨hc, hf⟩ := bcell hbz
             have hs2 := hbz.size
             rw [show ((w.alloc (.cells #[.string ⟨#[]⟩, .int .i64 0, .int .u64 0, .float .f64 0, .string ⟨#[]⟩] 30)).alloc (.cells #[.int .i64 0] 3)).heap.size = w.heap.size + 1 + 1 by simp] at hs2))
        refine leaves_cons (f := 48) (args := #[.pointer (some ⟨w.heap.size + 1, 0, none⟩)]) (by simp) (by simp [go_sem]) ?_
        refine (fault_idle _ _).mono ?_
        rintro e u' w'' ⟨rfl, rfl, rfl⟩
        have hbx : Below w.heap.size w w2 := (below_two w _ _).trans (hbz.mono (below_two w _ _).size)
        have hby := fun a0 a1 a2 a3 a4 a5 => Below.setCell (p := ⟨w.heap.size + 1, 0, none⟩) (below_st5 hbx (Nat.le_refl _) a0 a1 a2 a3 a4) (Nat.le_succ _) a5
        obtain ⟨c0, c1, c2, c3, c4, c5⟩ := two_cells hbz
        simp [Leaves, settle, results, Tryd.results35, go_sem, c0, c1, c2, c3, c4, c5]
        exact ⟨_, HF.out, rfl, hby _ _ _ _ _ _⟩
      · have l1 := upM_agg (mx (best l k)) (w.heap.size + 1 + 1) wr HM.out
        have HZ := Lib.hid (setMap_at (w := wr) (b := w.heap.size + 1 + 1) hml (mapA (mx (best l k))))
        have HE := Lib.hid (show repV (bestV l) = (mx (best l k)).getD .nilIface by unfold bestV mx; rw [← HN.out]; cases best l k <;> rfl)
        go_wp2_with (first
          | (go_at_call 36
             refine (zzMax_A (mx (best l k)) (w.heap.size + 1 + 1) _ _ (block_below HZ.out ((Below.refl _ _).alloc (Nat.le_refl _) _))).mono ?_
             rintro e w2 ⟨rfl, rfl⟩)
          | (go_at_call 28
             refine (HT.out _ _ HE.out).mono ?_
             rintro e w2 ⟨g, hfo, rfl, hb2⟩
             have HF := Lib.hid hfo
             clear hfo
             have hbz := up_below ((Below.setMap HB.out (by simp) _).alloc (by simp [setMap_size]; omega) _) (Nat.le_refl _) hb2
             obtain ⟨hc, hf⟩ := bcell hbz
             have hs2 := hbz.size
             rw [show ((w.alloc (.cells #[.string ⟨#[]⟩, .int .i64 0, .int .u64 0, .float .f64 0, .string ⟨#[]⟩] 30)).alloc (.cells #[.int .i64 0] 3)).heap.size = w.heap.size + 1 + 1 by simp] at hs2))
        refine leaves_cons (f := 48) (args := #[.pointer (some ⟨w.heap.size + 1, 0, none⟩)]) (by simp) (by simp [go_sem]) ?_
        refine (fault_idle _ _).mono ?_
        rintro e u' w'' ⟨rfl, rfl, rfl⟩
        have hbx : Below w.heap.size w w2 := (below_two w _ _).trans (hbz.mono (below_two w _ _).size)
        have hby := fun a0 a1 a2 a3 a4 a5 => Below.setCell (p := ⟨w.heap.size + 1, 0, none⟩) (below_st5 hbx (Nat.le_refl _) a0 a1 a2 a3 a4) (Nat.le_succ _) a5
        obtain ⟨c0, c1, c2, c3, c4, c5⟩ := two_cells hbz
        simp [Leaves, settle, results, Tryd.results35, go_sem, c0, c1, c2, c3, c4, c5]
        exact ⟨_, HF.out, rfl, hby _ _ _ _ _ _⟩

theorem implMax_any (l : List VV) (A : Option Addr) (c : Nat) (w : World) (hl : LAt w A l) (hagg : AggL l) (hm : l.length ≤ 2147483647) :
    Calls Tryd.prog 23 #[.slice A l.length c] w (OxPost l w) := by
  have HO := Lib.hid (fun w' (hb : Below w.heap.size w w') => over_max l A c w' (hl.below hb) hagg hm)
  clear hl hagg hm
  go_enter Tryd.func23, Tryd.ntmps23
  go_wp2_with (go_at_call 35; refine (HO.out _ ((Below.refl _ _).alloc (Nat.le_refl _) _)).mono ?_; rintro e w1 ⟨g, hfo, rfl, hb1⟩; have HF := Lib.hid hfo; clear hfo; obtain ⟨hc1, hf1⟩ := bcell hb1; have hz1 : w.heap.size < w1.heap.size := (by have := hb1.size; (try simp at this); omega))
  exact bodyPost_ret (v := .tuple #[.agg #[.string (bestV l).nm, .int .i64 (bestV l).oN, .int .u64 (bestV l).oU, .float .f64 g, .string (bestV l).oS], .int .i64 0]) (by simp [results, go_sem, hc1]) rfl
    ⟨g, HF.out, rfl, below_st5 (up_below ((Below.refl _ _).alloc (Nat.le_refl _) _) (Nat.le_refl _) hb1) (Nat.le_refl _) _ _ _ _ _⟩

end Go.Proofs.YtiijcmdfbgoafaaDoor
