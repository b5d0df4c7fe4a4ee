/-
  impl.over of count. PRINTED BY wip/tpl/gen_ov.py.
-/
import Derived.Test.YtkfaalfbnhkkaaaDoorLc
import Derived.Test.YtkfaalfbnhkkaaaDoorFa
import Derived.Test.YtkfaalfbnhkkaaaDoorTold
namespace Go.Proofs.YtkfaalfbnhkkaaaDoor
open Go.RowKit

def OvPost (l : List VV) (w : World) (e : Ending) (w' : World) : Prop :=
  e = .returned (.tuple #[.agg #[.string ⟨#[105, 110, 116, 54, 52]⟩, .int .i64 (cntL l l.length), .int .u64 0, .float .f64 0, .string ⟨#[]⟩], .int .i64 0]) ∧ Below w.heap.size w w'

theorem told_int (n : Nat) (hn : n ≤ 2147483647) (w : World) : Calls Tryd.prog 19 #[.iface 2 (.int .i64 (n : Int)), .nilIface] w fun e w' =>
    e = .returned (.tuple #[.agg #[.string ⟨#[105, 110, 116, 54, 52]⟩, .int .i64 n, .int .u64 0, .float .f64 0, .string ⟨#[]⟩], .int .i64 0]) ∧ Below w.heap.size w w' := by
  refine (told_ok (.int .i64 n) ⟨by have : IntKind.i64.min = -9223372036854775808 := (by decide); omega, by have : IntKind.i64.max = 9223372036854775807 := (by decide); omega⟩ _ w rfl).mono ?_
  rintro e w' ⟨g, hf, rfl, hb⟩
  have hg : g = 0 := hf
  subst hg
  exact ⟨rfl, hb⟩

theorem below_two (w : World) (a c : Obj) : Below w.heap.size w ((w.alloc a).alloc c) := ((Below.refl _ _).alloc (Nat.le_refl _) _).alloc (by simp) _

/-- What lies in the cells of the two results. -/
theorem two_cells {w w2 : World} (hb : Below ((w.alloc (.cells #[.string ⟨#[]⟩, .int .i64 0, .int .u64 0, .float .f64 0, .string ⟨#[]⟩] 27)).alloc (.cells #[.int .i64 0] 3)).heap.size ((w.alloc (.cells #[.string ⟨#[]⟩, .int .i64 0, .int .u64 0, .float .f64 0, .string ⟨#[]⟩] 27)).alloc (.cells #[.int .i64 0] 3)) w2) :
    w2.cell? ⟨w.heap.size, 0, none⟩ = some (.string ⟨#[]⟩) ∧ w2.cell? ⟨w.heap.size, 1, none⟩ = some (.int .i64 0) ∧ w2.cell? ⟨w.heap.size, 2, none⟩ = some (.int .u64 0) ∧
    w2.cell? ⟨w.heap.size, 3, none⟩ = some (.float .f64 0) ∧ w2.cell? ⟨w.heap.size, 4, none⟩ = some (.string ⟨#[]⟩) ∧ w2.cell? ⟨w.heap.size + 1, 0, none⟩ = some (.int .i64 0) := by
  obtain ⟨hc, _⟩ := bcell hb
  refine ⟨?_, ?_, ?_, ?_, ?_, ?_⟩
  all_goals
    rw [hc _ _ (by simp <;> omega)]
    simp [go_sem]

set_option maxHeartbeats 1000000 in
theorem over_count (l : List VV) (A : Option Addr) (c : Nat) (w : World) (hl : LAt w A l) (hgood : ∀ (j : Nat) (x : VV), l[j]? = some x → x.good) (hm : l.length ≤ 2147483647) :
    Calls Tryd.prog 12 #[.func (.func 13) #[] #[], .slice A l.length c] w (OvPost l w) := by
  obtain ⟨len, hlen⟩ : ∃ len, len = l.length := ⟨_, rfl⟩
  have HL := Lib.hid hl
  have HN := Lib.hid hlen
  have HI := Lib.hid (fun (x : VV) (hg : x.good) w => in2_any x hg w)
  have HG := Lib.hid hgood
  unfold OvPost
  rw [← hlen] at hm ⊢
  clear hl hlen hgood
  go_enter_defers Tryd.func12, Tryd.ntmps12
  have l0 := fun a c => upE_two w a c
  have lm := fun W => run_makeMap_plain (P := Tryd.prog) W 41
  go_wp2
  clear l0 lm
  go_loopw [17] (fun i wr => ∃ k : Nat, k ≤ len ∧ i = .int .i64 k ∧ Below ((w.alloc (.cells #[.string ⟨#[]⟩, .int .i64 0, .int .u64 0, .float .f64 0, .string ⟨#[]⟩] 27)).alloc (.cells #[.int .i64 0] 3)).heap.size ((w.alloc (.cells #[.string ⟨#[]⟩, .int .i64 0, .int .u64 0, .float .f64 0, .string ⟨#[]⟩] 27)).alloc (.cells #[.int .i64 0] 3)) wr ∧ wr.heap[w.heap.size + 1 + 1]? = some (mapM (cv (cntO l k)))) (fun i _ => len - (intOf i).toNat)
  case atStart =>
    refine ⟨0, by omega, rfl, (Below.refl _ _).alloc (Nat.le_refl _) _, ?_⟩
    have h := (MapKept.heap_alloc ((w.alloc (.cells #[.string ⟨#[]⟩, .int .i64 0, .int .u64 0, .float .f64 0, .string ⟨#[]⟩] 27)).alloc (.cells #[.int .i64 0] 3)) (mapM none)).1
    rw [show ((w.alloc (.cells #[.string ⟨#[]⟩, .int .i64 0, .int .u64 0, .float .f64 0, .string ⟨#[]⟩] 27)).alloc (.cells #[.int .i64 0] 3)).heap.size = w.heap.size + 1 + 1 by simp] at h
    exact h
  case round =>
    obtain ⟨k, hk, rfl, hb, hmap⟩ := hrel
    have HM := Lib.hid hmap
    clear hmap
    have hs := hb.size
    rw [show ((w.alloc (.cells #[.string ⟨#[]⟩, .int .i64 0, .int .u64 0, .float .f64 0, .string ⟨#[]⟩] 27)).alloc (.cells #[.int .i64 0] 3)).heap.size = w.heap.size + 1 + 1 by simp] at hs
    by_cases hlt : k < len
    · have hlt2 : k < l.length := by rw [← HN.out]; exact hlt
      obtain ⟨x, hx'⟩ : ∃ x, l[k]? = some x := ⟨_, List.getElem?_eq_getElem hlt2⟩
      have HX := Lib.hid hx'
      have HX2 := Lib.hid (HI.out x (HG.out k x hx'))
      have hbw := (below_two w _ _).trans (hb.mono (below_two w _ _).size)
      obtain ⟨ad, rfl, hbl, h0, h1, h2, h3, h4⟩ := (HL.out.below hbw) k x hx'
      have HB := Lib.hid hb
      have HC := Lib.hid (cntO_step (n := if x.isNull then 0 else 1) hx' rfl)
      have HO := Lib.hid (fun (y : SV) (v : Value) (w : World) (h1 : x.is y) (h2 : Rep w y v) => one_of_rep (HG.out k x hx') h1 h2)
      clear hx' hlt2 hb hbw
      go_wp2_with (first
        | (go_at_call 17; refine (HX2.out _).mono ?_; rintro e w1 ⟨v, y, rfl, hrv, hb1, hsv, hnew⟩; have H1 := Lib.hid (HO.out _ _ _ hsv hrv); have HB1 := Lib.hid hb1; clear hsv hnew hb1; rcases rep_form hrv with rfl | ⟨tv, uv, rfl⟩ <;> clear hrv)
        | (go_at_call 13
           first
             | refine (zzCount_step (cntO l k) (by rw [cntO_getD]; have := cntL_le l k; omega) (.iface tv uv) (.inr ⟨_, _, rfl⟩) (w.heap.size + 1 + 1) w1.heap.size 1 _ (map_step HM.out HB1.out) (by simp)).mono ?_
             | refine (zzCount_step (cntO l k) (by rw [cntO_getD]; have := cntL_le l k; omega) .nilIface (.inl rfl) (w.heap.size + 1 + 1) w1.heap.size 1 _ (map_step HM.out HB1.out) (by simp)).mono ?_
           rintro e w3 ⟨rfl, rfl⟩))
      all_goals
        refine ⟨⟨k + 1, by omega, by push_cast; rfl, Below.setMap (below_step HB.out HB1.out) (by simp) _, ?_⟩, by simp [intOf]; omega⟩
        rw [HC.out, ← H1.out]
        exact setMap_at (Nat.lt_of_lt_of_le (Array.getElem?_eq_some_iff.1 HM.out).1 (below_step (Below.refl _ _) HB1.out).size) _
    · have hke : k = len := by omega
      subst hke
      have hml := (Array.getElem?_eq_some_iff.1 HM.out).1
      have HB := Lib.hid hb
      clear hb
      by_cases hz : k = 0
      · subst hz
        have l1 := upM_agg none (w.heap.size + 1 + 1) wr HM.out
        have l2 := upA_agg0 (w.heap.size + 1 + 1) (setMap wr (w.heap.size + 1 + 1) (mapA none)) (setMap_at hml _)
        have HZ := Lib.hid (setMap_at (w := setMap wr (w.heap.size + 1 + 1) (mapA none)) (b := w.heap.size + 1 + 1) (by rw [setMap_size]; exact hml) mapZ)
        go_wp2_with (first
          | (go_at_call 13
             refine (zzCount_Z (w.heap.size + 1 + 1) _ _ (block_below HZ.out ((Below.refl _ _).alloc (Nat.le_refl _) _))).mono ?_
             rintro e w2 ⟨rfl, rfl⟩)
          | (go_at_call 19
             refine (told_int 0 (by omega) _).mono ?_
             rintro e w2 ⟨rfl, hb2⟩
             have hbz := up_below ((Below.setMap (Below.setMap HB.out (by simp) _) (by simp) _).alloc (by simp [setMap_size]; omega) _) (Nat.le_refl _) hb2
             obtain ⟨hc, hf⟩ := bcell hbz
             have hs2 := hbz.size
             rw [show ((w.alloc (.cells #[.string ⟨#[]⟩, .int .i64 0, .int .u64 0, .float .f64 0, .string ⟨#[]⟩] 27)).alloc (.cells #[.int .i64 0] 3)).heap.size = w.heap.size + 1 + 1 by simp] at hs2))
        refine leaves_cons (f := 16) (args := #[.pointer (some ⟨w.heap.size + 1, 0, none⟩)]) (by simp) (by simp [go_sem]) ?_
        refine (fault_idle _ _).mono ?_
        rintro e u' w'' ⟨rfl, rfl, rfl⟩
        have hbx : Below w.heap.size w w2 := (below_two w _ _).trans (hbz.mono (below_two w _ _).size)
        have hby := fun a0 a1 a2 a3 a4 a5 => Below.setCell (p := ⟨w.heap.size + 1, 0, none⟩) (below_st5 hbx (Nat.le_refl _) a0 a1 a2 a3 a4) (Nat.le_succ _) a5
        obtain ⟨c0, c1, c2, c3, c4, c5⟩ := two_cells hbz
        simp [Leaves, settle, results, Tryd.results12, go_sem, c0, c1, c2, c3, c4, c5]
        exact ⟨by simp [cntL], hby _ _ _ _ _ _⟩
      · have l1 := upM_agg (cv (some (cntL l k))) (w.heap.size + 1 + 1) wr (by have h := HM.out; rw [cntO, if_neg hz] at h; exact h)
        have HZ := Lib.hid (setMap_at (w := wr) (b := w.heap.size + 1 + 1) hml (mapA (cv (some (cntL l k)))))
        go_wp2_with (first
          | (go_at_call 13
             refine (zzCount_A (cntL l k) (w.heap.size + 1 + 1) _ _ (block_below HZ.out ((Below.refl _ _).alloc (Nat.le_refl _) _))).mono ?_
             rintro e w2 ⟨rfl, rfl⟩)
          | (go_at_call 19
             refine (told_int (cntL l k) (by have := cntL_le l k; omega) _).mono ?_
             rintro e w2 ⟨rfl, hb2⟩
             have hbz := up_below ((Below.setMap HB.out (by simp) _).alloc (by simp [setMap_size]; omega) _) (Nat.le_refl _) hb2
             obtain ⟨hc, hf⟩ := bcell hbz
             have hs2 := hbz.size
             rw [show ((w.alloc (.cells #[.string ⟨#[]⟩, .int .i64 0, .int .u64 0, .float .f64 0, .string ⟨#[]⟩] 27)).alloc (.cells #[.int .i64 0] 3)).heap.size = w.heap.size + 1 + 1 by simp] at hs2))
        refine leaves_cons (f := 16) (args := #[.pointer (some ⟨w.heap.size + 1, 0, none⟩)]) (by simp) (by simp [go_sem]) ?_
        refine (fault_idle _ _).mono ?_
        rintro e u' w'' ⟨rfl, rfl, rfl⟩
        have hbx : Below w.heap.size w w2 := (below_two w _ _).trans (hbz.mono (below_two w _ _).size)
        have hby := fun a0 a1 a2 a3 a4 a5 => Below.setCell (p := ⟨w.heap.size + 1, 0, none⟩) (below_st5 hbx (Nat.le_refl _) a0 a1 a2 a3 a4) (Nat.le_succ _) a5
        obtain ⟨c0, c1, c2, c3, c4, c5⟩ := two_cells hbz
        simp [Leaves, settle, results, Tryd.results12, go_sem, c0, c1, c2, c3, c4, c5]
        exact hby _ _ _ _ _ _

theorem count_any (l : List VV) (A : Option Addr) (c : Nat) (w : World) (hl : LAt w A l) (hgood : ∀ (j : Nat) (x : VV), l[j]? = some x → x.good) (hm : l.length ≤ 2147483647) :
    Calls Tryd.prog 5 #[.slice A l.length c] w (OvPost l w) := by
  have HO := Lib.hid (fun w' (hb : Below w.heap.size w w') => over_count l A c w' (hl.below hb) hgood hm)
  clear hl hgood hm
  go_enter Tryd.func5, Tryd.ntmps5
  go_wp2_with (go_at_call 12; refine (HO.out _ ((Below.refl _ _).alloc (Nat.le_refl _) _)).mono ?_; rintro e w1 ⟨rfl, hb1⟩; obtain ⟨hc1, hf1⟩ := bcell hb1; have hz1 : w.heap.size < w1.heap.size := (by have := hb1.size; (try simp at this); omega))
  exact bodyPost_ret (v := .tuple #[.agg #[.string ⟨#[105, 110, 116, 54, 52]⟩, .int .i64 (cntL l l.length), .int .u64 0, .float .f64 0, .string ⟨#[]⟩], .int .i64 0]) (by simp [results, go_sem, hc1]) rfl
    ⟨rfl, below_st5 (up_below ((Below.refl _ _).alloc (Nat.le_refl _) _) (Nat.le_refl _) hb1) (Nat.le_refl _) _ _ _ _ _⟩

end Go.Proofs.YtkfaalfbnhkkaaaDoor
