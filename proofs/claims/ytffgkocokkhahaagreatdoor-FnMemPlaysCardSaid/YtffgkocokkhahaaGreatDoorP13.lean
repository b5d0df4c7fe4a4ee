/-
  laws.deed: any deed. || The walk of laws.FnMemPlays: it returns true. || An argument of type []impl.MemDeed opened to its deeds' fields. || laws.FnMemPlays returns true for every input, and leaves its arguments as they were, the errors that it may read being laid by the program's text: the given card 'FnMemPlaysCardSaid'. No other condition.
-/
import Derived.Test.YtffgkocokkhahaaGreatDoorP09
import Derived.Test.YtffgkocokkhahaaGreatDoorP11
import Derived.Test.YtffgkocokkhahaaGreatDoorP12
import Derived.Test.YtffgkocokkhahaaGreatDoorP02
import Derived.Test.YtffgkocokkhahaaGreatDoorP07
import Derived.Test.YtffgkocokkhahaaGreatDoorCards
import Derived.Test.YtffgkocokkhahaaGreatDoorTie
import Derived.SevenTiedAt

/- laws.deed: any deed. -/
namespace Go.Proofs.YtffgkocokkhahaaGreatDoor
open Go.RowKit

theorem ba_of {op : ByteArray} {l : List UInt8} (h : op.toList = l) : op = ⟨l.toArray⟩ := by rw [← h, ByteArray.toList_eq]

theorem tried_any {w0 w : World} {B t k : Nat} {a : Addr} (h : Tr B w0 w t k) (hB : B = w0.heap.size) (hBw : B ≤ w.heap.size) (hE : ErrsOk w0 a) (hk : k ≤ 85) {d : MDV} (hop : isOpB d.op = true) (h0 : 0 ≤ d.h) (hl : LAt w0 d.A d.us) (hr : MRow d.us) :
    Calls Tryz.prog 8 #[.pointer (some ⟨t, 0, none⟩), .agg #[.string d.op, .int .i64 d.h, .slice d.A d.us.length d.c]] w (DeedP B w0 t k) := by
  obtain ⟨op, dh, A, c, us⟩ := d
  obtain ⟨dv, dm, b, N, os, dsv, ov, hp, hm, hb⟩ := h
  simp only at hop h0 hl hr ⊢
  rcases isOp_cases hop with f | f | f | f | f | f | f
  all_goals
    obtain rfl := ba_of f
  · exact tried_begin hp hm hb hB hBw hE hk hl
  · cases os with
    | nil => exact tried_commit0 hp hm hb hB hBw hE hk hl
    | cons o os => exact tried_commit1 hp hm hb hB hBw hE hk hl
  · cases os with
    | nil => exact tried_rollback0 hp hm hb hB hBw hE hk hl
    | cons o os => exact tried_rollback1 hp hm hb hB hBw hE hk hl
  · cases os with
    | nil => exact tried_create0 hp hm hb hB hBw hE hk hl
    | cons o os => exact tried_create1 hp hm hb hB hBw hE hk hl hr
  · cases os with
    | nil => exact tried_update0 hp hm hb hB hBw hE hk hl h0
    | cons o os => exact tried_update1 hp hm hb hB hBw hE hk hl h0 hr
  · cases os with
    | nil => exact tried_delete0 hp hm hb hB hBw hE hk hl h0
    | cons o os => exact tried_delete1 hp hm hb hB hBw hE hk hl h0
  · cases os with
    | nil => exact tried_read0 hp hm hb hB hBw hE hk hl h0
    | cons o os => exact tried_read1 hp hm hb hB hBw hE hk hl h0

end Go.Proofs.YtffgkocokkhahaaGreatDoor

/- The walk of laws.FnMemPlays: it returns true. -/
namespace Go.Proofs.YtffgkocokkhahaaGreatDoor
open Go.RowKit Go.Maps

set_option maxRecDepth 100000 in
set_option maxHeartbeats 1600000 in
theorem law_long (dv : List MDV) (A : Option Addr) (c : Nat) (w : World) (HZ : Hid (Calls Tryz.prog 5 #[.slice A dv.length c] w fun e w' => e = .returned (.bool false) ∧ Below w.heap.size w w')) :
    Calls Tryz.prog 3 #[.slice A dv.length c] w fun e w' => e = .returned (.bool true) ∧ Below w.heap.size w w' := by
  go_enter Tryz.func3, Tryz.ntmps3
  go_wp2_with (go_at_call 5; refine HZ.out.mono ?_; rintro e w1 ⟨rfl, hb1⟩)
  go_ret
  exact ⟨rfl, hb1⟩

set_option maxRecDepth 100000 in
set_option maxHeartbeats 1600000 in
theorem law_not (dv : List MDV) (A : Option Addr) (c : Nat) (w : World) {a : Addr} (hE : ErrsOk w a) (HZ : Hid (Calls Tryz.prog 5 #[.slice A dv.length c] w fun e w' => e = .returned (.bool true) ∧ Below w.heap.size w w'))
    (HI : Hid (∀ w', Below w.heap.size w w' → Calls Tryz.prog 6 #[.slice A dv.length c] w' fun e w'' => e = .returned (.bool false) ∧ Below w'.heap.size w' w'')) :
    Calls Tryz.prog 3 #[.slice A dv.length c] w fun e w' => e = .returned (.bool true) ∧ Below w.heap.size w w' := by
  have HE := Lib.hid hE
  clear hE
  go_enter Tryz.func3, Tryz.ntmps3
  go_wp2_with (first
    | (go_at_call 5; refine HZ.out.mono ?_; rintro e w1 ⟨rfl, hb1⟩)
    | (go_at_call 6; refine (HI.out _ hb1).mono ?_; rintro e w2 ⟨rfl, hb2⟩; have HB2 := Lib.hid (up_below' hb1 hb2))
    | (go_at_call 7; refine (stores_any _ (HE.out.of HB2.out)).mono ?_; rintro e w3 ⟨rfl, hb3⟩))
  go_ret
  exact ⟨rfl, up_below' HB2.out hb3⟩

theorem tr_start {w0 w2 W : World} {B t : Nat} (hB : B = w0.heap.size) (hb2 : Below B w0 w2) (hB2 : B ≤ w2.heap.size) (ht : t = w2.heap.size + 1) (hW : W = (w2.alloc (.map #[] 0)).alloc (.cells #[.slice none 0 0, .map (some w2.heap.size), .slice none 0 0] 30)) : Tr B w0 W t 0 := by
  have hal : Below w2.heap.size w2 W := hW ▸ below_al2 w2 _ _
  have hm : MapAt W w2.heap.size 0 (fun _ => none) := by
    rw [hW]
    exact ⟨.map [], ((World.ownsMap_made w2 _ _ _).alloc _), MapIs.empty⟩
  have hc : W.heap[t]? = some (.cells #[.slice none 0 0, .map (some w2.heap.size), .slice none 0 0] 30 (0, 0)) := by
    rw [hW, ht]
    have := heap_new (w2.alloc (.map #[] 0)) (.cells #[.slice none 0 0, .map (some w2.heap.size), .slice none 0 0] 30)
    simpa using this
  refine ⟨[], [], w2.heap.size, fun _ => none, [], _, _, ⟨rfl, rfl, fun j d x h => by simp at h, fun d hd => (by cases hd), trivial, fun h => ⟨fun r hr => (by cases hr), fun _ hl => ?_⟩, fun h r hr => (by cases hr), rfl, ⟨⟨Nat.le_refl _, fun h hh => (by cases hh), List.nodup_nil⟩, fun s hs => (by cases hs)⟩, ⟨Nat.le_refl _, fun s hs => (by cases hs)⟩⟩,
    ⟨hc, World.ownsRow_nil _ _ _ _, hm, World.ownsRow_nil _ _ _ _, fun o ho => (by cases ho), by omega, hB2, fun o ho => (by cases ho), fun o ho => (by cases ho), List.nodup_nil⟩, below_up hb2 hB2 hal⟩
  have h1 := hl.1
  have h2 : h < 2 := hl.2.1
  omega

theorem Tr.under {B t k : Nat} {w0 w w' : World} (h : Tr B w0 w t k) (hB : B ≤ w.heap.size) (hb : Below w.heap.size w w') : Tr B w0 w' t k := by
  obtain ⟨dv, dm, b, N, os, dsv, ov, hp, hm, hbb⟩ := h
  exact ⟨dv, dm, b, N, os, dsv, ov, hp, hm.below hb, below_up hbb hB hb⟩

theorem Tr.belowB {B t k : Nat} {w0 w : World} (h : Tr B w0 w t k) : Below B w0 w := by
  obtain ⟨dv, dm, b, N, os, dsv, ov, hp, hm, hbb⟩ := h
  exact hbb

set_option maxRecDepth 100000 in
set_option maxHeartbeats 6400000 in
theorem law_plays (dv : List MDV) (A : Option Addr) (c : Nat) (w : World) {a : Addr} (hE : ErrsOk w a) (hl : MDeedsAt w A dv) (h40 : dv.length ≤ 40) (hmem : ∀ d ∈ dv, isOpB d.op = true ∧ 0 ≤ d.h ∧ MRow d.us) (HZ : Hid (Calls Tryz.prog 5 #[.slice A dv.length c] w fun e w' => e = .returned (.bool true) ∧ Below w.heap.size w w'))
    (HI : Hid (∀ w', Below w.heap.size w w' → Calls Tryz.prog 6 #[.slice A dv.length c] w' fun e w'' => e = .returned (.bool true) ∧ Below w'.heap.size w' w'')) :
    Calls Tryz.prog 3 #[.slice A dv.length c] w fun e w' => e = .returned (.bool true) ∧ Below w.heap.size w w' := by
  have hmm := @run_makeMap Tryz.prog
  obtain ⟨len, hlen⟩ : ∃ len, len = dv.length := ⟨_, rfl⟩
  have HE := Lib.hid hE
  have HL := Lib.hid hl
  have HN := Lib.hid hlen
  have HD : Hid (∀ (t k : Nat) (wr : World), Tr w.heap.size w wr t k → w.heap.size ≤ wr.heap.size → k ≤ 85 → ∀ d ∈ dv, Calls Tryz.prog 8 #[.pointer (some ⟨t, 0, none⟩), .agg #[.string d.op, .int .i64 d.h, .slice d.A d.us.length d.c]] wr (DeedP w.heap.size w t k)) := Lib.hid (fun t k wr h hBw hk d hd => by
    obtain ⟨j, hj, e⟩ := List.getElem_of_mem hd
    have hh := hmem d hd
    exact tried_any h rfl hBw hE hk hh.1 hh.2.1 (hl j d (by rw [List.getElem?_eq_getElem hj, e])).2 hh.2.2)
  have HRD : Hid (∀ (t k : Nat) (wr : World), Tr w.heap.size w wr t k → w.heap.size ≤ wr.heap.size → k ≤ 85 → ∀ j : Nat, Calls Tryz.prog 8 #[.pointer (some ⟨t, 0, none⟩), .agg #[.string ⟨#[114, 101, 97, 100]⟩, .int .i64 (j : Int), .slice none 0 0]] wr (DeedP w.heap.size w t k)) := Lib.hid (fun t k wr h hBw hk j =>
    tried_any (d := ⟨readS, (j : Int), none, 0, []⟩) h rfl hBw hE hk (show isOpB readS = true from by kernel_rfl) (Int.natCast_nonneg j) (fun i x hx => by simp at hx) ⟨fun j x hx => by simp at hx, fun j x hx => by simp at hx, by simp⟩)
  rw [← hlen] at h40 HZ HI ⊢
  clear hE hl hlen hmem
  go_enter Tryz.func3, Tryz.ntmps3
  go_wp2_with (first
    | (go_at_call 5; refine HZ.out.mono ?_; rintro e w1 ⟨rfl, hb1⟩)
    | (go_at_call 6; refine (HI.out _ hb1).mono ?_; rintro e w2 ⟨rfl, hb2⟩; have HB2 := Lib.hid (up_below' hb1 hb2)))
  have HT0 : Hid (Tr w.heap.size w ((w2.alloc (.map #[] 0)).alloc (.cells #[.slice none 0 0, .map (some w2.heap.size), .slice none 0 0] 30)) (w2.heap.size + 1) 0) := Lib.hid (tr_start rfl HB2.out HB2.out.size rfl rfl)
  obtain ⟨t, ht⟩ : ∃ t, t = w2.heap.size + 1 := ⟨_, rfl⟩
  rw [← ht] at HT0
  have HTT := Lib.hid ht
  rw [← ht]
  clear ht
  go_loopw [18] (fun i wr => ∃ (j k : Nat), j ≤ len ∧ i = .int .i64 j ∧ k ≤ j ∧ Tr w.heap.size w wr t k) (fun i _ => len - (intOf i).toNat)
  case atStart => exact ⟨0, 0, by omega, rfl, Nat.le_refl _, HT0.out⟩
  case round =>
    rename World => wa
    obtain ⟨j, k, hj, rfl, hk, hT⟩ := hrel
    have hs := hT.belowB.size
    by_cases hlt : j < len
    · obtain ⟨d, hd⟩ : ∃ d, dv[j]? = some d := ⟨_, List.getElem?_eq_getElem (by rw [← HN.out]; exact hlt)⟩
      obtain ⟨⟨ad, rfl, hbl, h0, h1, h2⟩, _⟩ := (HL.out.below hT.belowB) j d hd
      have HC := Lib.hid (HD.out t k wa hT hs (by omega) d (List.mem_of_getElem? hd))
      clear hT hd
      go_wp2_with (go_at_call 8
                   refine HC.out.mono ?_
                   rintro y w3 ⟨rfl, k', hk', hT'⟩
                   have HT3 := Lib.hid hT'
                   clear hT')
      exact ⟨⟨j + 1, k', by omega, by push_cast; rfl, by omega, HT3.out⟩, by simp [intOf]; omega⟩
    · obtain ⟨dv', dm, b, N, os, dsv, ov, hp, hm, hbb⟩ := hT
      have c1 : wa.cell? ⟨t, 1, none⟩ = some (.map (some b)) := cell_of_heap hm.cell 1
      have HH := Lib.hid (handles_any hm.now (by omega) (fun x r hx => by have := hp.bound hx; omega))
      have HTA : Hid (Tr w.heap.size w wa t k) := Lib.hid ⟨dv', dm, b, N, os, dsv, ov, hp, hm, hbb⟩
      have hk40 : k ≤ 40 := by omega
      clear hp hm hbb hk
      go_wp2_with (go_at_call 9
                   refine HH.out.mono ?_
                   rintro y w4 ⟨A1, n1, cc1, xs, rfl, hn1, hown1, hall1, hk1x, hb4⟩
                   have HT4 : Hid (Tr w.heap.size w w4 t k) := Lib.hid (HTA.out.under hs hb4)
                   clear hn1 hown1 hall1 hb4)
      go_loopw [35] (fun i wi => ∃ (j2 k2 : Nat), j2 ≤ n1 ∧ i = .int .i64 j2 ∧ k2 ≤ k + j2 ∧ Tr w.heap.size w wi t k2) (fun i _ => n1 - (intOf i).toNat)
      case atStart => exact ⟨0, k, by omega, rfl, Nat.le_refl _, HT4.out⟩
      case round =>
        rename World => wi
        obtain ⟨j2, k2, hj2, rfl, hk2, hT2⟩ := hrel
        have hs2 := hT2.belowB.size
        by_cases hlt2 : j2 < n1
        · have HC := Lib.hid (HRD.out t k2 wi hT2 hs2 (by omega) j2)
          clear hT2
          go_wp2_with (go_at_call 8
                       refine HC.out.mono ?_
                       rintro y w5 ⟨rfl, k3, hk3, hT5⟩
                       have HT5 := Lib.hid hT5
                       clear hT5)
          exact ⟨⟨j2 + 1, k3, by omega, by push_cast; rfl, by omega, HT5.out⟩, by simp [intOf]; omega⟩
        · have HT6 := Lib.hid hT2
          clear hT2
          go_wp2_with (go_at_call 7; refine (stores_any _ (HE.out.of HT6.out.belowB)).mono ?_; rintro e w6 ⟨rfl, hb6⟩)
          go_ret
          exact ⟨rfl, up_below' HT6.out.belowB hb6⟩

/-- What the law's arguments are. -/
def MDeedRng (d : MDV) : Prop := (∀ (j : Nat) (x : VV), d.us[j]? = some x → Rng x.n x.u x.f)

theorem fits_row {l : List VV} (h : fits2B l = true) : FitL l := fun j x hx => by
  unfold fits2B at h
  rw [Bool.and_eq_true, List.all_eq_true] at h
  have := h.2 x (List.mem_of_getElem? hx)
  unfold fitsB at this
  simp only [Bool.and_eq_true, decide_eq_true_eq] at this
  exact this.2

theorem lawMem_walk {w : World} (dv : List MDV) (A : Option Addr) (c : Nat) (hl : MDeedsAt w A dv) (hr : ∀ d ∈ dv, MDeedRng d) {a : Addr} (hE : ErrsOk w a) :
    Calls Tryz.prog 3 #[.slice A dv.length c] w fun e w' => e = .returned (.bool true) ∧ Below w.heap.size w w' := by
  have hz := zzFits21_any dv A c w hl
  cases h : fits21B dv with
  | false =>
    rw [h] at hz
    exact law_long dv A c w (Lib.hid hz)
  | true =>
    rw [h] at hz
    have h' := h
    unfold fits21B at h'
    rw [Bool.and_eq_true, decide_eq_true_eq, List.all_eq_true] at h'
    have hfd : ∀ d ∈ dv, fits2B d.us = true := fun d hd => by
      have := h'.2 d hd
      unfold fits22B at this
      rw [Bool.and_eq_true] at this
      exact this.2
    have hlen : ∀ d ∈ dv, d.us.length ≤ 2147483647 := fun d hd => by
      have := hfd d hd
      unfold fits2B at this
      rw [Bool.and_eq_true, decide_eq_true_eq] at this
      exact this.1
    have hi : ∀ w', Below w.heap.size w w' → Calls Tryz.prog 6 #[.slice A dv.length c] w' fun e w'' => e = .returned (.bool (isMemB dv)) ∧ Below w'.heap.size w' w'' := fun w' hb => isMem_any dv A c w' (hl.below hb) hlen h'.1
    cases hm : isMemB dv with
    | false =>
      rw [hm] at hi
      exact law_not dv A c w hE (Lib.hid hz) (Lib.hid hi)
    | true =>
      rw [hm] at hi
      have hm' := hm
      unfold isMemB at hm'
      rw [Bool.and_eq_true, decide_eq_true_eq, List.all_eq_true] at hm'
      refine law_plays dv A c w hE hl hm'.1 (fun d hd => ?_) (Lib.hid hz) (Lib.hid hi)
      have h2 := hm'.2 d hd
      unfold memB concL at h2
      simp only [Bool.and_eq_true, decide_eq_true_eq, List.all_eq_true] at h2
      exact ⟨h2.1, h2.2.2, fun j x hx => ⟨h2.2.1.2 x (List.mem_of_getElem? hx), hr d hd j x hx⟩, fits_row (hfd d hd), by have := h2.2.1.1; omega⟩

end Go.Proofs.YtffgkocokkhahaaGreatDoor

/- An argument of type []impl.MemDeed opened to its deeds' fields. -/
namespace Go.Proofs.YtffgkocokkhahaaGreatDoor
open Go.ChangeShapes Go.WideShapes Go.ChangeAt Go.RowKit Go.Deep
set_option maxRecDepth 100000

section
variable {H : Type} {enc : TypeId × Value → H} {w : World} {base : Nat} {held : Bool}
theorem cellsMD : Tryz.prog.cellsOf 34 = 3 := by kernel_rfl

instance : Inhabited MDV := ⟨⟨⟨#[]⟩, 0, none, 0, []⟩⟩

theorem open_mdeedsL {fuel : Nat} {cs : List Value} {x : DataW H × List MemPlace} (h : DataW.trod enc Tryz.prog w base (fun _ => true) held fuel 22 cs = some x) :
    ∃ (A : Option Addr) (l : List MDV) (c : Nat), cs = [.slice A l.length c] ∧ MDeedsAt w A l ∧ (∀ d ∈ l, MDeedRng d) := by
  rcases open_slice_fields Tryz.underlying22 Tryz.underlying34 (by kernel_rfl) cellsMD h with ⟨rfl, _⟩ | ⟨a, len, cap, m, D, Pl, rfl, _, hl, hm, hmm, _, hel⟩
  · exact ⟨none, [], 0, rfl, fun i x h => by simp at h, fun x h => by simp at h⟩
  · have hmm' : m = cap := hmm
    obtain ⟨V, hV⟩ := choose_lt (α := MDV) (n := len) (p := fun i x => MDeedRng x ∧ w.cell? (a.add (i * 3)) = some (.string x.op) ∧ w.cell? (a.add (i * 3 + 1)) = some (.int .i64 x.h) ∧ w.cell? (a.add (i * 3 + 2)) = some (.slice x.A x.us.length x.c) ∧ LAt w x.A x.us) (fun i hi => by
      obtain ⟨ys, n, _, _, _, hf⟩ := hel i (by omega)
      obtain ⟨v0, y0, c0, _, t0⟩ := hf 0 _ rfl
      obtain ⟨v1, y1, c1, _, t1⟩ := hf 1 _ rfl
      obtain ⟨v2, y2, c2, _, t2⟩ := hf 2 _ rfl
      obtain ⟨s, e0, _⟩ := DataW.trod_string Tryz.underlying9 t0
      obtain ⟨n, e1, _, hn⟩ := DataW.trod_int Tryz.underlying2 t1
      obtain ⟨A, l, c, e2, hl, hr, hm⟩ := open_values t2
      simp only [List.cons.injEq, and_true] at e0 e1 e2
      subst e0 e1 e2
      exact ⟨⟨s, n, A, c, l⟩, hr, c0, c1, c2, hl⟩)
    refine ⟨some a, (List.range len).map V, cap, by simp, fun i x hx => ?_, fun x hx => ?_⟩
    · rw [List.getElem?_map] at hx
      rcases Nat.lt_or_ge i len with hi | hi
      · rw [List.getElem?_range hi] at hx
        obtain rfl := Option.some.inj hx
        obtain ⟨_, c0, c1, c2, hl⟩ := hV i hi
        rw [madd_off a (i * 3) 1 (by decide)] at c1
        rw [madd_off a (i * 3) 2 (by decide)] at c2
        exact ⟨⟨a, rfl, cell_lt c0, c0, c1, c2⟩, hl⟩
      · rw [List.getElem?_eq_none (by simpa using hi)] at hx
        cases hx
    · obtain ⟨i, hi, rfl⟩ := List.mem_map.1 hx
      exact (hV i (List.mem_range.1 hi)).1

theorem open_mdeeds {r : Reach} {b0 : Nat} {v : Value} {d : DataW H} {p : List MemPlace} (hv : Value.okWide Tryz.prog w r b0 22 v) (h : DataW.Trod enc Tryz.prog w base (fun _ => true) held 22 v d p) :
    ∃ (A : Option Addr) (l : List MDV) (c : Nat), v = .slice A l.length c ∧ MDeedsAt w A l ∧ (∀ d ∈ l, MDeedRng d) := by
  obtain ⟨a0, len, cap, rfl⟩ := okWide_slice Tryz.underlying22 hv
  obtain ⟨fuel, hf⟩ := h
  obtain ⟨A, l, c, e0, hl, hr⟩ := open_mdeedsL hf
  have e1 : (Value.slice a0 len cap) = .slice A l.length c := by
    have : [Value.slice a0 len cap] = [.slice A l.length c] := e0
    simpa using this
  exact ⟨A, l, c, e1, hl, hr⟩

end

end Go.Proofs.YtffgkocokkhahaaGreatDoor

/- laws.FnMemPlays returns true for every input, and leaves its arguments as they were, the errors that it may read being laid by the program's text: the given card 'FnMemPlaysCardSaid'. No other condition. -/
namespace Go.Proofs.YtffgkocokkhahaaGreatDoor.mem
open Go.ChangeShapes Go.WideShapes Go.ChangeAt Go.RowKit
open Go.ChangeMaps (open_string shut_string)
set_option linter.unusedVariables false

set_option maxRecDepth 100000 in
theorem lifted (os : Os) (started : os.Started) (H : Type) (enc : TypeId × Value → H) :
    ReturnsInHanded {} Tryz.checked os 3 .any (fun w args => (Rows.fnMemPlaysSpec.pre enc Tryz.prog Tryz.f3 [] false w args ∧ laidMet Tryz.prog mlaid w) ∧ sizedMet enc Tryz.prog Tryz.f3 (OpenSpec.ofChange Rows.fnMemPlaysSpec) false w args)
      (Rows.fnMemPlaysSpec.post enc Tryz.prog Tryz.f3 false true false false) := by
  refine returnsInHanded_of_change_and (C := Tryz.checked) (X := fun w _ => laidMet Tryz.prog mlaid w) (fun _ _ _ hh h => h.of_heap hh) own started (by kernel_rfl) Tryz.func3
    (ChangeSpec.witness_at (enc := enc) (C := Tryz.checked) (os := os) (X := fun w _ => laidMet Tryz.prog mlaid w) false (mlaidWorld os) #[.slice none 0 0] 8 rfl (by kernel_rfl) (by kernel_rfl) (by kernel_rfl) (by kernel_rfl) (by kernel_rfl) (mlaidWorld_met os _)) ?_
  intro W base args ds gs before hval0 hW _ _ hL _
  obtain ⟨aE, hG⟩ := errs_of_laid hL
  have hval : ∀ (j : Nat) t v, Tryz.f3.params[j]? = some t → args[j]? = some v → Value.okWide Tryz.prog W .any base t v := hval0
  have hW' := hW
  obtain ⟨p, q, hA0, hV, rfl, hfz, hnd⟩ := hW
  have hA : DataW.TrodAll enc Tryz.prog W 0 (fun _ => true) true Tryz.f3.params.toList args.toList ds p := hA0
  rw [Tryz.params3] at hA hval
  obtain ⟨v0, vs0, d0, ds0, p0, q0, hargs, rfl, rfl, h0, r0⟩ := trodAll_cons hA
  obtain ⟨rfl, rfl, rfl⟩ := trodAll_nil r0
  obtain rfl : args = #[v0] := by cases args; simp_all
  obtain ⟨rfl, rfl⟩ := trodVars_none hV
  have k0 := h0
  have lt0 : ∀ x ∈ p0, x.block < W.heap.size := by obtain ⟨m, hm⟩ := k0; exact DataW.trod_lt m _ _ _ hm
  obtain ⟨A0, l0, c0, hv0, hl0, hr0⟩ := open_mdeeds (hval 0 22 v0 rfl rfl) h0
  subst hv0
  clear hA0 hval0
  refine (lawMem_walk l0 A0 c0 hl0 hr0 hG).mono fun e W' ⟨he, bel⟩ => ?_
  subst he
  exact ⟨_, rfl, _, _, _, [], _, [], hW', trodAll_mk1 (shut_bool Tryz.underlying4 _), (trodAll_cons_mk (Below.trod laidOut (by kernel_rfl) (of_decide_eq_true (by kernel_rfl)) k0 bel lt0) trodAll_mk0), rfl, bel.frame _, fun h => by cases h⟩

theorem over : Rows.fnMemPlaysRow.holds Tryz.pinned (OpenSpec.ofChange Rows.fnMemPlaysSpec) :=
  OpenClaim.holds_of_wide 3 Tryz.f3 rfl rfl rfl rfl rfl rfl rfl ⟨rfl, rfl, rfl, rfl, rfl⟩ rfl rfl rfl rfl rfl (by kernel_rfl) Tryz.func3 (by kernel_rfl)
    (of_decide_eq_true (by kernel_rfl)) (by unfold Func.isWrapper; first | (rw [if_pos (by decide +kernel)]; kernel_rfl) | (rw [if_neg (by decide +kernel)]; exact ⟨rfl, rfl⟩))
    (fun os started H enc _ => lifted os started H enc)

set_option maxRecDepth 100000 in
theorem card : Claim7.holds Tryz.pinned (.plain (OpenSpec.ofChange Rows.fnMemPlaysSpec)) Rows.fnMemPlaysCard :=
  Claim7.holds_tied_plain_at .later [] [.sentinel, .sentinel, .sentinel, .sentinel] true Rows.fnMemPlaysCard.stood.harness true
    over (fun _ h => by cases h) (by kernel_rfl) (fun _ h => by cases h) fnMemPlays_row_tie rfl ⟨rfl, rfl⟩ (by kernel_rfl) rfl
    (fun f fn hf hfn => by
      obtain rfl : f = 3 := Option.some.inj ((show Tryz.prog.funcNamed "pub-quern/laws.FnMemPlays" = some 3 by kernel_rfl).symm.trans hf) |>.symm
      obtain rfl : fn = Tryz.f3 := (Option.some.inj (Tryz.func3.symm.trans hfn)).symm
      exact ⟨by kernel_rfl, fun j t ht => by
        rw [Tryz.params3] at ht
        have h3 : t = 22 := by
          rcases j with _ | j
          · have := Option.some.inj ht; subst this; simp
          · simp at ht
        rcases h3 with rfl
        · exact (show Tryz.prog.wantsStandIn 22 = false by kernel_rfl)⟩)
    (by kernel_rfl)

end Go.Proofs.YtffgkocokkhahaaGreatDoor.mem

namespace Go.Proofs.YtffgkocokkhahaaGreatDoor
theorem mem_holds : Rows.FnMemPlaysCardSaid := mem.card
end Go.Proofs.YtffgkocokkhahaaGreatDoor
