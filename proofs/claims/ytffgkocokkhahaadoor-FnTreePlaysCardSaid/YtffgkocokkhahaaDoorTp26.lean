/-
  impl.treeDeed: seek. PRINTED BY wip/tpl/gen_ytd.py. || impl.treeDeed: seek, no step. PRINTED BY wip/tpl/gen_ytd.py. || impl.treeDeed: ends. PRINTED BY wip/tpl/gen_ytd.py. || A new tree; impl.treeDeed, any deed; what holds between the deeds of impl.Tree. || impl.Tree: deeds to a new tree. || laws.zzFits16 (as Sl7, without impl.KeyCompare); a list of one value in new memory.
-/
import Derived.Test.YtffgkocokkhahaaDoorTp25
import Derived.Laws.Small
import Derived.Deep.RegionLaw
import Derived.Test.YtffgkocokkhahaaDoorTp11

/- impl.treeDeed: seek. PRINTED BY wip/tpl/gen_ytd.py. -/
namespace Go.Proofs.YtffgkocokkhahaaDoor
open Go.RowKit

/-- Seek, its walk's way known. -/
def SeekT (ps : List PR) (N : Int) (nx hit : Bool) (w : World) (y : Ending) (w1 : World) : Prop := ∃ it, y = .returned (.tuple #[it, .bool hit]) ∧ TSeekG ps N nx hit w it .nilIface w1

set_option maxRecDepth 100000 in
set_option maxHeartbeats 3200000 in
theorem deed_seek_on {dsc : Bool} {n t : Nat} {st : List PR} {M D : Nat → Prop} {w : World} (h : TrX dsc n t st M D w) {K V : List VV} {A B : Option Addr} {c d : Nat} {N : Int} (hn : n ≤ 1000) (hA : LAt w A K) (hcK : ConcL K) (hl : K.length = n) {E : Value} (hE : HasEof w E) (hN : 0 < N) (h0 : -1000000 ≤ N) (h1 : N ≤ 1000000) :
    Calls Tryd.prog 22 #[.pointer (some ⟨t, 0, none⟩), .agg #[.string ⟨#[115, 101, 101, 107]⟩, .slice A K.length c, .slice B V.length d, .int .i64 N]] w (TDeedP dsc n t st ⟨.seek, K, V, N⟩ M D w) := by
  have HX := Lib.hid h
  have HI : Hid (∀ w', Below w.heap.size w w' → Calls Tryd.prog 29 #[.slice A K.length c] w' (InsPD K w')) := Lib.hid (fun w' hb => insPD_all K A c w' (hA.below hb) hcK.good (by omega))
  have HC : Hid (∀ (F : Nat → Prop) (w' : World) (A' : Option Addr) (c' : Nat) (vs : List Value), Below w.heap.size w w' → TrX dsc n t st M F w' → InsD F w' K A' vs → Calls Tryd.prog 48 #[.pointer (some ⟨t, 0, none⟩), .slice A' K.length c'] w' (SeekT ((st.drop (placeP dsc K st)).take N.toNat) N true (thereP dsc K st) w')) := Lib.hid (fun F w' A' c' vs hb hx hi => (tr_seek hx hn hi hcK hl (hE.below hb) h0 h1).mono fun y w1 h1 => by
    obtain ⟨it, rfl, hw⟩ := h1
    unfold seekPs at hw
    rw [if_pos hN, if_pos hN, decide_eq_true hN] at hw
    exact ⟨it, rfl, hw⟩)
  clear h hn hA hcK hl hE
  have q1 : (0 < N) = True := eq_true hN
  have q2 : IntKind.i64.wrap (-N) = -N := IntWalk.i64_in _ (by omega)
  have q3 : ¬ N < -N := by omega
  clear h0 h1
  go_enter Tryd.func22, Tryd.ntmps22
  go_wp2_with (first
    | (go_at_call 29
       refine (HI.out _ (below_al2 w _ _)).mono ?_
       rintro y w1 ⟨A1, c1, vs, rfl, hb1, hi1⟩
       have HK1 : Hid (w1.heap[w.heap.size]? = some (.cells #[.string ⟨#[115, 101, 101, 107]⟩, .slice A K.length c, .slice B V.length d, .int .i64 N] 27 (0, 0))) := Lib.hid (heap_below ((heap_alloc_ne _ _ _ (by simp)).trans (heap_new w _)) hb1)
       have HR1 : Hid (w1.heap[w.heap.size + 1]? = some (.cells #[.bool false, .int .i64 0, .slice none 0 0, .slice none 0 0] 35 (0, 0))) := Lib.hid (heap_below (by have := heap_new (w.alloc (.cells #[.string ⟨#[115, 101, 101, 107]⟩, .slice A K.length c, .slice B V.length d, .int .i64 N] 27)) (.cells #[.bool false, .int .i64 0, .slice none 0 0, .slice none 0 0] 35); simpa using this) hb1)
       have HB1 : Hid (Below w.heap.size w w1) := Lib.hid (up_below (below_al2 w _ _) (Nat.le_refl _) hb1)
       have hs1 : w.heap.size + 2 ≤ w1.heap.size := lt_of_heap HR1.out
       have HX1 := Lib.hid (tr_add HX.out HB1.out)
       have HI1 := Lib.hid (hi1.mono (E := fun k => D k ∨ (w.heap.size + 2 ≤ k ∧ k < w1.heap.size)) (fun k h => .inr ⟨by have := h.1; simp at this; omega, h.2⟩))
       have k3 := cell_of_heap HK1.out 3
       clear hi1 hb1)
    | (go_at_call 48
       refine (HC.out _ _ A1 c1 vs HB1.out HX1.out HI1.out).mono ?_
       rintro y w2 ⟨it, rfl, hb2, hw2⟩
       have HW2 := Lib.hid hw2
       have HK2 := Lib.hid (heap_below HK1.out hb2)
       have HR2 := Lib.hid (heap_below HR1.out hb2)
       have HB2 : Hid (Below w.heap.size w w2) := Lib.hid (up_below HB1.out (Nat.le_refl _) hb2)
       have hs2 : w.heap.size + 2 ≤ w2.heap.size := lt_of_heap HR2.out
       have HQ2 : Hid (w.heap.size + 2 ≤ w1.heap.size) := Lib.hid hs1
       have k3 := cell_of_heap HK2.out 3
       clear hb2 hw2)
    | (go_at_call 46
       refine (HW2.out _ (Below.refl _ _)).mono ?_
       rintro y w3 ⟨P, p, rs, rfl, hi3, ho3, hb3⟩
       have HI3 := Lib.hid hi3
       have HO3 := Lib.hid ho3
       have HB3 : Hid (Below w.heap.size w w3) := Lib.hid (HB2.out.trans (hb3.mono (Nat.le_trans (Nat.le_add_right _ 2) HQ2.out)))
       have HR3 : Hid (w3.heap[w.heap.size + 1]? = some (.cells #[.bool false, .int .i64 0, .slice none 0 0, .slice none 0 0] 35 (0, 0))) := Lib.hid ((hb3.block _ (Nat.lt_of_lt_of_le (Nat.lt_succ_self _) HQ2.out)).trans HR2.out)
       have r0 := cell_of_heap HR3.out 0
       have f0 := free_of_heap HR3.out 0
       have r1 := cell_of_heap HR3.out 1
       have f1 := free_of_heap HR3.out 1
       have r2 := cell_of_heap HR3.out 2
       have f2 := free_of_heap HR3.out 2
       have r3 := cell_of_heap HR3.out 3
       have f3 := free_of_heap HR3.out 3
       clear hi3 ho3 hb3))
  have HQ3 : PairsIn (fun z => w.heap.size + 2 ≤ z ∧ z < w3.heap.size) w3 P rs := HI3.out.mono (fun k h => ⟨Nat.le_trans hs2 h.1, h.2⟩)
  obtain ⟨W, hW⟩ : ∃ W, W = (((w3.setCell ⟨w.heap.size + 1, 0, none⟩ (.bool (thereP dsc K st))).setCell ⟨w.heap.size + 1, 1, none⟩ (.int .i64 0)).setCell ⟨w.heap.size + 1, 2, none⟩ (.slice none 0 0)).setCell ⟨w.heap.size + 1, 3, none⟩ (.slice P rs.length p) := ⟨_, rfl⟩
  rw [← hW]
  have hh : W.heap[w.heap.size + 1]? = some (.cells #[.bool (thereP dsc K st), .int .i64 0, .slice none 0 0, .slice P rs.length p] 35 (0, 0)) := by rw [hW, heap_setCell_at, heap_setCell_at, heap_setCell_at, heap_setCell_at, HR3.out]; rfl
  have d0 : W.cell? ⟨w.heap.size + 1, 0, none⟩ = some (.bool (thereP dsc K st)) := cell_of_heap hh 0
  have d1 : W.cell? ⟨w.heap.size + 1, 1, none⟩ = some (.int .i64 0) := cell_of_heap hh 1
  have d2 : W.cell? ⟨w.heap.size + 1, 2, none⟩ = some (.slice none 0 0) := cell_of_heap hh 2
  have d3 : W.cell? ⟨w.heap.size + 1, 3, none⟩ = some (.slice P rs.length p) := cell_of_heap hh 3
  have hc : Chg (fun k => k = w.heap.size + 1) w3 W := hW ▸ ((((Chg.refl (fun k => k = w.heap.size + 1) w3).setCell (p := ⟨w.heap.size + 1, _, none⟩) (.inl rfl) _).setCell (p := ⟨w.heap.size + 1, _, none⟩) (.inl rfl) _).setCell (p := ⟨w.heap.size + 1, _, none⟩) (.inl rfl) _).setCell (p := ⟨w.heap.size + 1, _, none⟩) (.inl rfl) _
  refine bodyPost_ret (v := .agg #[.bool (thereP dsc K st), .int .i64 0, .slice none 0 0, .slice P rs.length p]) (by simp [results, Tryd.results22, go_sem, d0, d1, d2, d3]) rfl ?_
  have hsay : TSays ⟨thereP dsc K st, 0, none, 0, [], P, p, rs⟩ (ansT dsc st ⟨.seek, K, V, N⟩) := ⟨fun b e => Option.some.inj e, fun m e => (by cases e), fun m e => (by cases e), fun m e => by
    have e2 : (if 0 ≤ N then some ((st.drop (placeP dsc K st)).take N.toNat) else if placeP dsc K st < st.length then some ((st.take (placeP dsc K st + 1)).reverse.take (-N).toNat) else none) = some m := e
    rw [if_pos (by omega)] at e2
    rw [← Option.some.inj e2]
    exact HO3.out⟩
  exact read_fin HX.out rfl (below_fin HB3.out hc) hsay ⟨ValsIn.nil _ _, HQ3.up (Nat.le_refl _) hc⟩

set_option maxRecDepth 100000 in
set_option maxHeartbeats 3200000 in
theorem deed_seek_back {dsc : Bool} {n t : Nat} {st : List PR} {M D : Nat → Prop} {w : World} (h : TrX dsc n t st M D w) {K V : List VV} {A B : Option Addr} {c d : Nat} {N : Int} (hn : n ≤ 1000) (hA : LAt w A K) (hcK : ConcL K) (hl : K.length = n) {E : Value} (hE : HasEof w E) (hN : N < 0) (h0 : -1000000 ≤ N) (h1 : N ≤ 1000000) :
    Calls Tryd.prog 22 #[.pointer (some ⟨t, 0, none⟩), .agg #[.string ⟨#[115, 101, 101, 107]⟩, .slice A K.length c, .slice B V.length d, .int .i64 N]] w (TDeedP dsc n t st ⟨.seek, K, V, N⟩ M D w) := by
  have HX := Lib.hid h
  have HI : Hid (∀ w', Below w.heap.size w w' → Calls Tryd.prog 29 #[.slice A K.length c] w' (InsPD K w')) := Lib.hid (fun w' hb => insPD_all K A c w' (hA.below hb) hcK.good (by omega))
  have HC : Hid (∀ (F : Nat → Prop) (w' : World) (A' : Option Addr) (c' : Nat) (vs : List Value), Below w.heap.size w w' → TrX dsc n t st M F w' → InsD F w' K A' vs → Calls Tryd.prog 48 #[.pointer (some ⟨t, 0, none⟩), .slice A' K.length c'] w' (SeekT (if placeP dsc K st < st.length then (st.take (placeP dsc K st + 1)).reverse.take (-N).toNat else []) (-N) false (thereP dsc K st) w')) := Lib.hid (fun F w' A' c' vs hb hx hi => (tr_seek hx hn hi hcK hl (hE.below hb) h0 h1).mono fun y w1 h1 => by
    obtain ⟨it, rfl, hw⟩ := h1
    have hN' : ¬ 0 < N := by omega
    unfold seekPs at hw
    rw [if_neg hN', if_neg hN', decide_eq_false hN'] at hw
    exact ⟨it, rfl, hw⟩)
  clear h hn hA hcK hl hE
  have q1 : decide (0 < N) = false := decide_eq_false (by omega)
  have q2 : IntKind.i64.wrap (-N) = -N := IntWalk.i64_in _ (by omega)
  have q3 : N < -N := by omega
  clear h0 h1
  go_enter Tryd.func22, Tryd.ntmps22
  go_wp2_with (first
    | (go_at_call 29
       refine (HI.out _ (below_al2 w _ _)).mono ?_
       rintro y w1 ⟨A1, c1, vs, rfl, hb1, hi1⟩
       have HK1 : Hid (w1.heap[w.heap.size]? = some (.cells #[.string ⟨#[115, 101, 101, 107]⟩, .slice A K.length c, .slice B V.length d, .int .i64 N] 27 (0, 0))) := Lib.hid (heap_below ((heap_alloc_ne _ _ _ (by simp)).trans (heap_new w _)) hb1)
       have HR1 : Hid (w1.heap[w.heap.size + 1]? = some (.cells #[.bool false, .int .i64 0, .slice none 0 0, .slice none 0 0] 35 (0, 0))) := Lib.hid (heap_below (by have := heap_new (w.alloc (.cells #[.string ⟨#[115, 101, 101, 107]⟩, .slice A K.length c, .slice B V.length d, .int .i64 N] 27)) (.cells #[.bool false, .int .i64 0, .slice none 0 0, .slice none 0 0] 35); simpa using this) hb1)
       have HB1 : Hid (Below w.heap.size w w1) := Lib.hid (up_below (below_al2 w _ _) (Nat.le_refl _) hb1)
       have hs1 : w.heap.size + 2 ≤ w1.heap.size := lt_of_heap HR1.out
       have HX1 := Lib.hid (tr_add HX.out HB1.out)
       have HI1 := Lib.hid (hi1.mono (E := fun k => D k ∨ (w.heap.size + 2 ≤ k ∧ k < w1.heap.size)) (fun k h => .inr ⟨by have := h.1; simp at this; omega, h.2⟩))
       have k3 := cell_of_heap HK1.out 3
       clear hi1 hb1)
    | (go_at_call 48
       refine (HC.out _ _ A1 c1 vs HB1.out HX1.out HI1.out).mono ?_
       rintro y w2 ⟨it, rfl, hb2, hw2⟩
       have HW2 := Lib.hid hw2
       have HK2 := Lib.hid (heap_below HK1.out hb2)
       have HR2 := Lib.hid (heap_below HR1.out hb2)
       have HB2 : Hid (Below w.heap.size w w2) := Lib.hid (up_below HB1.out (Nat.le_refl _) hb2)
       have hs2 : w.heap.size + 2 ≤ w2.heap.size := lt_of_heap HR2.out
       have HQ2 : Hid (w.heap.size + 2 ≤ w1.heap.size) := Lib.hid hs1
       have k3 := cell_of_heap HK2.out 3
       clear hb2 hw2)
    | (go_at_call 46
       refine (HW2.out _ (Below.refl _ _)).mono ?_
       rintro y w3 ⟨P, p, rs, rfl, hi3, ho3, hb3⟩
       have HI3 := Lib.hid hi3
       have HO3 := Lib.hid ho3
       have HB3 : Hid (Below w.heap.size w w3) := Lib.hid (HB2.out.trans (hb3.mono (Nat.le_trans (Nat.le_add_right _ 2) HQ2.out)))
       have HR3 : Hid (w3.heap[w.heap.size + 1]? = some (.cells #[.bool false, .int .i64 0, .slice none 0 0, .slice none 0 0] 35 (0, 0))) := Lib.hid ((hb3.block _ (Nat.lt_of_lt_of_le (Nat.lt_succ_self _) HQ2.out)).trans HR2.out)
       have r0 := cell_of_heap HR3.out 0
       have f0 := free_of_heap HR3.out 0
       have r1 := cell_of_heap HR3.out 1
       have f1 := free_of_heap HR3.out 1
       have r2 := cell_of_heap HR3.out 2
       have f2 := free_of_heap HR3.out 2
       have r3 := cell_of_heap HR3.out 3
       have f3 := free_of_heap HR3.out 3
       clear hi3 ho3 hb3))
  have HQ3 : PairsIn (fun z => w.heap.size + 2 ≤ z ∧ z < w3.heap.size) w3 P rs := HI3.out.mono (fun k h => ⟨Nat.le_trans hs2 h.1, h.2⟩)
  obtain ⟨W, hW⟩ : ∃ W, W = (((w3.setCell ⟨w.heap.size + 1, 0, none⟩ (.bool (thereP dsc K st))).setCell ⟨w.heap.size + 1, 1, none⟩ (.int .i64 0)).setCell ⟨w.heap.size + 1, 2, none⟩ (.slice none 0 0)).setCell ⟨w.heap.size + 1, 3, none⟩ (.slice P rs.length p) := ⟨_, rfl⟩
  rw [← hW]
  have hh : W.heap[w.heap.size + 1]? = some (.cells #[.bool (thereP dsc K st), .int .i64 0, .slice none 0 0, .slice P rs.length p] 35 (0, 0)) := by rw [hW, heap_setCell_at, heap_setCell_at, heap_setCell_at, heap_setCell_at, HR3.out]; rfl
  have d0 : W.cell? ⟨w.heap.size + 1, 0, none⟩ = some (.bool (thereP dsc K st)) := cell_of_heap hh 0
  have d1 : W.cell? ⟨w.heap.size + 1, 1, none⟩ = some (.int .i64 0) := cell_of_heap hh 1
  have d2 : W.cell? ⟨w.heap.size + 1, 2, none⟩ = some (.slice none 0 0) := cell_of_heap hh 2
  have d3 : W.cell? ⟨w.heap.size + 1, 3, none⟩ = some (.slice P rs.length p) := cell_of_heap hh 3
  have hc : Chg (fun k => k = w.heap.size + 1) w3 W := hW ▸ ((((Chg.refl (fun k => k = w.heap.size + 1) w3).setCell (p := ⟨w.heap.size + 1, _, none⟩) (.inl rfl) _).setCell (p := ⟨w.heap.size + 1, _, none⟩) (.inl rfl) _).setCell (p := ⟨w.heap.size + 1, _, none⟩) (.inl rfl) _).setCell (p := ⟨w.heap.size + 1, _, none⟩) (.inl rfl) _
  refine bodyPost_ret (v := .agg #[.bool (thereP dsc K st), .int .i64 0, .slice none 0 0, .slice P rs.length p]) (by simp [results, Tryd.results22, go_sem, d0, d1, d2, d3]) rfl ?_
  have hsay : TSays ⟨thereP dsc K st, 0, none, 0, [], P, p, rs⟩ (ansT dsc st ⟨.seek, K, V, N⟩) := ⟨fun b e => Option.some.inj e, fun m e => (by cases e), fun m e => (by cases e), fun m e => by
    have e2 : (if 0 ≤ N then some ((st.drop (placeP dsc K st)).take N.toNat) else if placeP dsc K st < st.length then some ((st.take (placeP dsc K st + 1)).reverse.take (-N).toNat) else none) = some m := e
    have ho := HO3.out
    rw [if_neg (by omega)] at e2
    split at e2
    · rename_i hp
      rw [if_pos hp] at ho
      rw [← Option.some.inj e2]
      exact ho
    · cases e2⟩
  exact read_fin HX.out rfl (below_fin HB3.out hc) hsay ⟨ValsIn.nil _ _, HQ3.up (Nat.le_refl _) hc⟩

end Go.Proofs.YtffgkocokkhahaaDoor

/- impl.treeDeed: seek, no step. PRINTED BY wip/tpl/gen_ytd.py. -/
namespace Go.Proofs.YtffgkocokkhahaaDoor
open Go.RowKit

def SeekZ (ps : List PR) (N : Int) (nx hit : Bool) (w : World) (y : Ending) (w1 : World) : Prop := ∃ it, y = .returned (.tuple #[it, .bool hit]) ∧ TSeekG ps N nx hit w it .nilIface w1

set_option maxRecDepth 100000 in
set_option maxHeartbeats 3200000 in
theorem deed_seek_zero {dsc : Bool} {n t : Nat} {st : List PR} {M D : Nat → Prop} {w : World} (h : TrX dsc n t st M D w) {K V : List VV} {A B : Option Addr} {c d : Nat} (hn : n ≤ 1000) (hA : LAt w A K) (hcK : ConcL K) (hl : K.length = n) {E : Value} (hE : HasEof w E)  :
    Calls Tryd.prog 22 #[.pointer (some ⟨t, 0, none⟩), .agg #[.string ⟨#[115, 101, 101, 107]⟩, .slice A K.length c, .slice B V.length d, .int .i64 0]] w (TDeedP dsc n t st ⟨.seek, K, V, 0⟩ M D w) := by
  have HX := Lib.hid h
  have HI : Hid (∀ w', Below w.heap.size w w' → Calls Tryd.prog 29 #[.slice A K.length c] w' (InsPD K w')) := Lib.hid (fun w' hb => insPD_all K A c w' (hA.below hb) hcK.good (by omega))
  have HC : Hid (∀ (F : Nat → Prop) (w' : World) (A' : Option Addr) (c' : Nat) (vs : List Value), Below w.heap.size w w' → TrX dsc n t st M F w' → InsD F w' K A' vs → Calls Tryd.prog 48 #[.pointer (some ⟨t, 0, none⟩), .slice A' K.length c'] w' (SeekZ [] 0 false (thereP dsc K st) w')) := Lib.hid (fun F w' A' c' vs hb hx hi => (tr_seek hx hn hi hcK hl (hE.below hb) (N := 0) (by omega) (by omega)).mono fun y w1 h1 => by
    obtain ⟨it, rfl, hw⟩ := h1
    unfold seekPs at hw
    simp at hw
    exact ⟨it, rfl, hw⟩)
  clear h hn hA hcK hl hE
  go_enter Tryd.func22, Tryd.ntmps22
  go_wp2_with (first
    | (go_at_call 29
       refine (HI.out _ (below_al2 w _ _)).mono ?_
       rintro y w1 ⟨A1, c1, vs, rfl, hb1, hi1⟩
       have HK1 : Hid (w1.heap[w.heap.size]? = some (.cells #[.string ⟨#[115, 101, 101, 107]⟩, .slice A K.length c, .slice B V.length d, .int .i64 0] 27 (0, 0))) := Lib.hid (heap_below ((heap_alloc_ne _ _ _ (by simp)).trans (heap_new w _)) hb1)
       have HR1 : Hid (w1.heap[w.heap.size + 1]? = some (.cells #[.bool false, .int .i64 0, .slice none 0 0, .slice none 0 0] 35 (0, 0))) := Lib.hid (heap_below (by have := heap_new (w.alloc (.cells #[.string ⟨#[115, 101, 101, 107]⟩, .slice A K.length c, .slice B V.length d, .int .i64 0] 27)) (.cells #[.bool false, .int .i64 0, .slice none 0 0, .slice none 0 0] 35); simpa using this) hb1)
       have HB1 : Hid (Below w.heap.size w w1) := Lib.hid (up_below (below_al2 w _ _) (Nat.le_refl _) hb1)
       have hs1 : w.heap.size + 2 ≤ w1.heap.size := lt_of_heap HR1.out
       have HX1 := Lib.hid (tr_add HX.out HB1.out)
       have HI1 := Lib.hid (hi1.mono (E := fun k => D k ∨ (w.heap.size + 2 ≤ k ∧ k < w1.heap.size)) (fun k h => .inr ⟨by have := h.1; simp at this; omega, h.2⟩))
       have k3 := cell_of_heap HK1.out 3
       clear hi1 hb1)
    | (go_at_call 48
       refine (HC.out _ _ A1 c1 vs HB1.out HX1.out HI1.out).mono ?_
       rintro y w2 ⟨it, rfl, hb2, hw2⟩
       have HW2 := Lib.hid hw2
       have HK2 := Lib.hid (heap_below HK1.out hb2)
       have HR2 := Lib.hid (heap_below HR1.out hb2)
       have HB2 : Hid (Below w.heap.size w w2) := Lib.hid (up_below HB1.out (Nat.le_refl _) hb2)
       have hs2 : w.heap.size + 2 ≤ w2.heap.size := lt_of_heap HR2.out
       have HQ2 : Hid (w.heap.size + 2 ≤ w1.heap.size) := Lib.hid hs1
       have k3 := cell_of_heap HK2.out 3
       clear hb2 hw2)
    | (go_at_call 46
       refine (HW2.out _ (Below.refl _ _)).mono ?_
       rintro y w3 ⟨P, p, rs, rfl, hi3, ho3, hb3⟩
       have HI3 := Lib.hid hi3
       have HO3 := Lib.hid ho3
       have HB3 : Hid (Below w.heap.size w w3) := Lib.hid (HB2.out.trans (hb3.mono (Nat.le_trans (Nat.le_add_right _ 2) HQ2.out)))
       have HR3 : Hid (w3.heap[w.heap.size + 1]? = some (.cells #[.bool false, .int .i64 0, .slice none 0 0, .slice none 0 0] 35 (0, 0))) := Lib.hid ((hb3.block _ (Nat.lt_of_lt_of_le (Nat.lt_succ_self _) HQ2.out)).trans HR2.out)
       have r0 := cell_of_heap HR3.out 0
       have f0 := free_of_heap HR3.out 0
       have r1 := cell_of_heap HR3.out 1
       have f1 := free_of_heap HR3.out 1
       have r2 := cell_of_heap HR3.out 2
       have f2 := free_of_heap HR3.out 2
       have r3 := cell_of_heap HR3.out 3
       have f3 := free_of_heap HR3.out 3
       clear hi3 ho3 hb3))
  have HQ3 : PairsIn (fun z => w.heap.size + 2 ≤ z ∧ z < w3.heap.size) w3 P rs := HI3.out.mono (fun k h => ⟨Nat.le_trans hs2 h.1, h.2⟩)
  obtain ⟨W, hW⟩ : ∃ W, W = (((w3.setCell ⟨w.heap.size + 1, 0, none⟩ (.bool (thereP dsc K st))).setCell ⟨w.heap.size + 1, 1, none⟩ (.int .i64 0)).setCell ⟨w.heap.size + 1, 2, none⟩ (.slice none 0 0)).setCell ⟨w.heap.size + 1, 3, none⟩ (.slice P rs.length p) := ⟨_, rfl⟩
  rw [← hW]
  have hh : W.heap[w.heap.size + 1]? = some (.cells #[.bool (thereP dsc K st), .int .i64 0, .slice none 0 0, .slice P rs.length p] 35 (0, 0)) := by rw [hW, heap_setCell_at, heap_setCell_at, heap_setCell_at, heap_setCell_at, HR3.out]; rfl
  have d0 : W.cell? ⟨w.heap.size + 1, 0, none⟩ = some (.bool (thereP dsc K st)) := cell_of_heap hh 0
  have d1 : W.cell? ⟨w.heap.size + 1, 1, none⟩ = some (.int .i64 0) := cell_of_heap hh 1
  have d2 : W.cell? ⟨w.heap.size + 1, 2, none⟩ = some (.slice none 0 0) := cell_of_heap hh 2
  have d3 : W.cell? ⟨w.heap.size + 1, 3, none⟩ = some (.slice P rs.length p) := cell_of_heap hh 3
  have hc : Chg (fun k => k = w.heap.size + 1) w3 W := hW ▸ ((((Chg.refl (fun k => k = w.heap.size + 1) w3).setCell (p := ⟨w.heap.size + 1, _, none⟩) (.inl rfl) _).setCell (p := ⟨w.heap.size + 1, _, none⟩) (.inl rfl) _).setCell (p := ⟨w.heap.size + 1, _, none⟩) (.inl rfl) _).setCell (p := ⟨w.heap.size + 1, _, none⟩) (.inl rfl) _
  refine bodyPost_ret (v := .agg #[.bool (thereP dsc K st), .int .i64 0, .slice none 0 0, .slice P rs.length p]) (by simp [results, Tryd.results22, go_sem, d0, d1, d2, d3]) rfl ?_
  have hsay : TSays ⟨thereP dsc K st, 0, none, 0, [], P, p, rs⟩ (ansT dsc st ⟨.seek, K, V, 0⟩) := ⟨fun b e => Option.some.inj e, fun m e => (by cases e), fun m e => (by cases e), fun m e => by
    have e2 : (if (0 : Int) ≤ 0 then some ((st.drop (placeP dsc K st)).take (0 : Int).toNat) else if placeP dsc K st < st.length then some ((st.take (placeP dsc K st + 1)).reverse.take (-(0 : Int)).toNat) else none) = some m := e
    rw [if_pos (by omega)] at e2
    rw [← Option.some.inj e2]
    exact HO3.out⟩
  exact read_fin HX.out rfl (below_fin HB3.out hc) hsay ⟨ValsIn.nil _ _, HQ3.up (Nat.le_refl _) hc⟩

end Go.Proofs.YtffgkocokkhahaaDoor

/- impl.treeDeed: ends. PRINTED BY wip/tpl/gen_ytd.py. -/
namespace Go.Proofs.YtffgkocokkhahaaDoor
open Go.RowKit

/-- What First and Last tell. -/
def EndQ (D : Nat → Prop) (o : Option PR) (w : World) (y : Ending) (w' : World) : Prop :=
  ∃ lk vk lv vv, y = .returned (.tuple #[vk, vv]) ∧ HeldV D w' lk vk ∧ HeldV D w' lv vv ∧ (∀ p, o = some p → p = ⟨lk, lv⟩) ∧ Below w.heap.size w w'

section
variable {dsc : Bool} {n t : Nat} {st : List PR} {M D : Nat → Prop} {w w1 W : World}

theorem endQ_of {o : Option PR} {y : Ending} (e : XE) (he : EOk D w e) (ho : ∀ p, o = some p → p = e.pr) (h : y = .returned (.tuple #[.slice e.A e.m e.p, .slice e.B e.n e.q]) ∧ Below w.heap.size w w1) : EndQ D o w y w1 := by
  obtain ⟨rfl, hb⟩ := h
  have he' := he.chg (Chg.of_below (S := fun _ => False) hb) (fun _ _ h => h)
  exact ⟨e.l, _, e.V, _, rfl, he'.heldK, he'.heldV, ho, hb⟩
theorem endQ_nil {y : Ending} (h : y = .returned (.tuple #[.slice none 0 0, .slice none 0 0]) ∧ Below w.heap.size w w1) : EndQ D none w y w1 := by
  obtain ⟨rfl, hb⟩ := h
  exact ⟨[], _, [], _, rfl, HeldV.nil, HeldV.nil, fun p hp => (by cases hp), hb⟩

theorem tr_fst (h : TrX dsc n t st M D w) : Calls Tryd.prog 43 #[.pointer (some ⟨t, 0, none⟩)] w (EndQ D st.head? w) := by
  obtain ⟨L, hT, he, hk⟩ := h.ex
  obtain ⟨P, r, ver, hP, hch, hn, ht, hPS, hSt⟩ := tree_pages hT
  cases P with
  | nil =>
    have hst : st = [] := by rw [← he, ← hP]; rfl
    subst hst
    exact (first_none ht).mono fun y w1 h1 => endQ_nil h1
  | cons p B =>
    obtain ⟨q, es⟩ := p
    have h1e : 1 ≤ es.length := hn (q, es) (by simp)
    obtain ⟨rest, hq⟩ := chain_at (A := []) hch
    cases es with
    | nil => simp at h1e
    | cons e es =>
      have hL : L = e :: (es ++ ents B) := by rw [← hP, ents_cons]; rfl
      refine (first_some hq (e := e) rfl ht).mono fun y w1 h1 => endQ_of e (hk e (by rw [hL]; simp)) (fun p hp => ?_) h1
      rw [← he, hL] at hp
      exact (Option.some.inj hp).symm
theorem tr_lst (h : TrX dsc n t st M D w) : Calls Tryd.prog 44 #[.pointer (some ⟨t, 0, none⟩)] w (EndQ D st.getLast? w) := by
  obtain ⟨L, hT, he, hk⟩ := h.ex
  obtain ⟨P, r, ver, hP, hch, hn, ht, hPS, hSt⟩ := tree_pages hT
  rcases List.eq_nil_or_concat P with hPn | ⟨A, ⟨q, es⟩, hPc⟩
  · subst hPn
    have hst : st = [] := by rw [← he, ← hP]; rfl
    subst hst
    exact (last_none ht).mono fun y w1 h1 => endQ_nil h1
  · have hPc' : P = A ++ [(q, es)] := by simpa using hPc
    subst hPc'
    have h1e : 1 ≤ es.length := hn (q, es) (by simp)
    obtain ⟨rest, hq⟩ := chain_at (A := A) (B := []) hch
    have hl : lastp (.pointer none) (A ++ [(q, es)]) = ptr q := by rw [lastp_append]; rfl
    rw [hl] at ht
    rcases List.eq_nil_or_concat es with hen | ⟨es', e, hec⟩
    · subst hen; simp at h1e
    · have hec' : es = es' ++ [e] := by simpa using hec
      subst hec'
      have hL : L = ents A ++ es' ++ [e] := by rw [← hP, ents_append]; simp [ents]
      refine (last_some hq (j := es'.length) (by simp) (e := e) (by simp) ht).mono fun y w1 h1 => endQ_of e (hk e (by rw [hL]; simp)) (fun p hp => ?_) h1
      rw [← he, hL, List.map_append] at hp
      simp at hp
      exact hp.symm

theorem HeldV.below {l : List VV} {v : Value} (h : HeldV D w l v) (hb : Below w.heap.size w w1) : HeldV D w1 l v := h.chg (Chg.of_below (S := fun _ => False) hb) (fun _ _ h => h)
theorem ValsIn.below {A : Option Addr} {us : List VV} (h : ValsIn D w A us) (hb : Below w.heap.size w w1) : ValsIn D w1 A us := h.chg (Chg.of_below (S := fun _ => False) hb) (fun _ _ h => h)

theorem reads_two {r s : PairV} {fr : Nat × Nat} {b : Nat} (h : W.heap[b]? = some (.cells #[.slice r.kA r.k.length r.kc, .slice r.vA r.v.length r.vc, .slice s.kA s.k.length s.kc, .slice s.vA s.v.length s.vc] 66 fr)) : Reads W W.heap.size 2 (some ⟨b, 0, none⟩) 2 (flat PairV.cells [r, s]) :=
  ⟨rfl, fun _ => ⟨_, rfl, lt_of_heap h, fun j u hu => World.news_of_block (cs := #[.slice r.kA r.k.length r.kc, .slice r.vA r.v.length r.vc, .slice s.kA s.k.length s.kc, .slice s.vA s.v.length s.vc]) h j u (by simpa [flat, PairV.cells] using hu)⟩⟩
end

set_option maxRecDepth 100000 in
set_option maxHeartbeats 3200000 in
theorem deed_ends {dsc : Bool} {n t : Nat} {st : List PR} {M D : Nat → Prop} {w : World} (h : TrX dsc n t st M D w) {K V : List VV} {A B : Option Addr} {c d : Nat} {N : Int} :
    Calls Tryd.prog 22 #[.pointer (some ⟨t, 0, none⟩), .agg #[.string ⟨#[101, 110, 100, 115]⟩, .slice A K.length c, .slice B V.length d, .int .i64 N]] w (TDeedP dsc n t st ⟨.ends, K, V, N⟩ M D w) := by
  have HX := Lib.hid h
  clear h
  go_enter Tryd.func22, Tryd.ntmps22
  go_wp2_with (first
    | (go_at_call 43
       refine (tr_fst (HX.out.below (below_al2' w _ _))).mono ?_
       rintro y w1 ⟨l1, v1, l2, v2, rfl, hk1, hk2, hp1, hb1⟩
       have HP1 := Lib.hid hp1
       have HA1 := Lib.hid hk1
       have HA2 := Lib.hid hk2
       have HK1 : Hid (w1.heap[w.heap.size]? = some (.cells #[.string ⟨#[101, 110, 100, 115]⟩, .slice A K.length c, .slice B V.length d, .int .i64 N] 27 (0, 0))) := Lib.hid (heap_below ((heap_alloc_ne _ _ _ (by simp)).trans (heap_new w _)) hb1)
       have HR1 : Hid (w1.heap[w.heap.size + 1]? = some (.cells #[.bool false, .int .i64 0, .slice none 0 0, .slice none 0 0] 35 (0, 0))) := Lib.hid (heap_below (by have := heap_new (w.alloc (.cells #[.string ⟨#[101, 110, 100, 115]⟩, .slice A K.length c, .slice B V.length d, .int .i64 N] 27)) (.cells #[.bool false, .int .i64 0, .slice none 0 0, .slice none 0 0] 35); simpa using this) hb1)
       have HB1 : Hid (Below w.heap.size w w1) := Lib.hid (up_below (below_al2 w _ _) (Nat.le_refl _) hb1)
       have hs1 : w.heap.size + 2 ≤ w1.heap.size := lt_of_heap HR1.out
       clear hk1 hk2 hp1 hb1)
    | (go_at_call 44
       refine (tr_lst (HX.out.below HB1.out)).mono ?_
       rintro y w2 ⟨l3, v3, l4, v4, rfl, hk3, hk4, hp2, hb2⟩
       have HP2 := Lib.hid hp2
       have HA3 := Lib.hid hk3
       have HA4 := Lib.hid hk4
       have HA1' := Lib.hid (HA1.out.below hb2)
       have HA2' := Lib.hid (HA2.out.below hb2)
       have HK2 := Lib.hid (heap_below HK1.out hb2)
       have HR2 := Lib.hid (heap_below HR1.out hb2)
       have HB2 : Hid (Below w.heap.size w w2) := Lib.hid (up_below HB1.out (Nat.le_refl _) hb2)
       have hs2 : w.heap.size + 2 ≤ w2.heap.size := lt_of_heap HR2.out
       clear hk3 hk4 hp2 hb2)
    | (go_at_call_of 39 v1
       refine (HA1'.out).outsV.mono ?_
       rintro y w3 ⟨A3, c3, us3, rfl, ho3, hv3, hb3⟩
       have HO3 := Lib.hid ho3
       have HV3 := Lib.hid hv3
       have HE3 := Lib.hid hb3
       have HK3 := Lib.hid (heap_below HK2.out hb3)
       have HR3 := Lib.hid (heap_below HR2.out hb3)
       have HB3 : Hid (Below w.heap.size w w3) := Lib.hid (up_below HB2.out (Nat.le_refl _) hb3)
       have hs3 : w.heap.size + 2 ≤ w3.heap.size := lt_of_heap HR3.out
       clear ho3 hv3 hb3)
    | (go_at_call_of 39 v2
       refine (HA2'.out.below HE3.out).outsV.mono ?_
       rintro y w4 ⟨A4, c4, us4, rfl, ho4, hv4, hb4⟩
       have HO4 := Lib.hid ho4
       have HV4 := Lib.hid hv4
       have HE4 := Lib.hid hb4
       have HK4 := Lib.hid (heap_below HK3.out hb4)
       have HR4 := Lib.hid (heap_below HR3.out hb4)
       have HB4 : Hid (Below w.heap.size w w4) := Lib.hid (up_below HB3.out (Nat.le_refl _) hb4)
       have hs4 : w.heap.size + 2 ≤ w4.heap.size := lt_of_heap HR4.out
       clear ho4 hv4 hb4)
    | (go_at_call_of 39 v3
       refine ((HA3.out.below HE3.out).below HE4.out).outsV.mono ?_
       rintro y w5 ⟨A5, c5, us5, rfl, ho5, hv5, hb5⟩
       have HO5 := Lib.hid ho5
       have HV5 := Lib.hid hv5
       have HE5 := Lib.hid hb5
       have HK5 := Lib.hid (heap_below HK4.out hb5)
       have HR5 := Lib.hid (heap_below HR4.out hb5)
       have HB5 : Hid (Below w.heap.size w w5) := Lib.hid (up_below HB4.out (Nat.le_refl _) hb5)
       have hs5 : w.heap.size + 2 ≤ w5.heap.size := lt_of_heap HR5.out
       clear ho5 hv5 hb5)
    | (go_at_call_of 39 v4
       refine (((HA4.out.below HE3.out).below HE4.out).below HE5.out).outsV.mono ?_
       rintro y w6 ⟨A6, c6, us6, rfl, ho6, hv6, hb6⟩
       have HO6 := Lib.hid ho6
       have HV6 := Lib.hid hv6
       have HE6 := Lib.hid hb6
       have HK6 := Lib.hid (heap_below HK5.out hb6)
       have HR6 := Lib.hid (heap_below HR5.out hb6)
       have HB6 : Hid (Below w.heap.size w w6) := Lib.hid (up_below HB5.out (Nat.le_refl _) hb6)
       have hs6 : w.heap.size + 2 ≤ w6.heap.size := lt_of_heap HR6.out
       clear ho6 hv6 hb6
       have HR7 : Hid ((w6.alloc (.cells #[.slice A3 us3.length c3, .slice A4 us4.length c4, .slice A5 us5.length c5, .slice A6 us6.length c6] 66)).heap[w.heap.size + 1]? = some (.cells #[.bool false, .int .i64 0, .slice none 0 0, .slice none 0 0] 35 (0, 0))) := Lib.hid ((heap_alloc_ne _ _ _ (by omega)).trans HR6.out)
       have r0 := cell_of_heap HR7.out 0
       have f0 := free_of_heap HR7.out 0
       have r1 := cell_of_heap HR7.out 1
       have f1 := free_of_heap HR7.out 1
       have r2 := cell_of_heap HR7.out 2
       have f2 := free_of_heap HR7.out 2
       have r3 := cell_of_heap HR7.out 3
       have f3 := free_of_heap HR7.out 3
       skip))
  have hc0 : Chg (fun k => k = w.heap.size + 1) w6 (w6.alloc (.cells #[.slice A3 us3.length c3, .slice A4 us4.length c4, .slice A5 us5.length c5, .slice A6 us6.length c6] 66)) := (Chg.refl _ w6).alloc _
  obtain ⟨w7, hw7⟩ : ∃ w7, w7 = w6.alloc (.cells #[.slice A3 us3.length c3, .slice A4 us4.length c4, .slice A5 us5.length c5, .slice A6 us6.length c6] 66) := ⟨_, rfl⟩
  have HN7 : w7.heap[w6.heap.size]? = some (.cells #[.slice A3 us3.length c3, .slice A4 us4.length c4, .slice A5 us5.length c5, .slice A6 us6.length c6] 66 (0, 0)) := by rw [hw7]; exact heap_new w6 _
  have hB7 : Below w6.heap.size w6 w7 := by rw [hw7]; exact (Below.refl _ _).alloc (Nat.le_refl _) _
  rw [← hw7] at HR7 hc0 ⊢
  obtain ⟨W, hW⟩ : ∃ W, W = (((w7.setCell ⟨w.heap.size + 1, 0, none⟩ (.bool false)).setCell ⟨w.heap.size + 1, 1, none⟩ (.int .i64 0)).setCell ⟨w.heap.size + 1, 2, none⟩ (.slice none 0 0)).setCell ⟨w.heap.size + 1, 3, none⟩ (.slice (some ⟨w6.heap.size, 0, none⟩) 2 2) := ⟨_, rfl⟩
  rw [← hW]
  have hh : W.heap[w.heap.size + 1]? = some (.cells #[.bool false, .int .i64 0, .slice none 0 0, .slice (some ⟨w6.heap.size, 0, none⟩) 2 2] 35 (0, 0)) := by rw [hW, heap_setCell_at, heap_setCell_at, heap_setCell_at, heap_setCell_at, HR7.out]; rfl
  have d0 : W.cell? ⟨w.heap.size + 1, 0, none⟩ = some (.bool false) := cell_of_heap hh 0
  have d1 : W.cell? ⟨w.heap.size + 1, 1, none⟩ = some (.int .i64 0) := cell_of_heap hh 1
  have d2 : W.cell? ⟨w.heap.size + 1, 2, none⟩ = some (.slice none 0 0) := cell_of_heap hh 2
  have d3 : W.cell? ⟨w.heap.size + 1, 3, none⟩ = some (.slice (some ⟨w6.heap.size, 0, none⟩) 2 2) := cell_of_heap hh 3
  have hc : Chg (fun k => k = w.heap.size + 1) w7 W := hW ▸ ((((Chg.refl (fun k => k = w.heap.size + 1) w7).setCell (p := ⟨w.heap.size + 1, _, none⟩) (.inl rfl) _).setCell (p := ⟨w.heap.size + 1, _, none⟩) (.inl rfl) _).setCell (p := ⟨w.heap.size + 1, _, none⟩) (.inl rfl) _).setCell (p := ⟨w.heap.size + 1, _, none⟩) (.inl rfl) _
  refine bodyPost_ret (v := .agg #[.bool false, .int .i64 0, .slice none 0 0, .slice (some ⟨w6.heap.size, 0, none⟩) 2 2]) (by simp [results, Tryd.results22, go_sem, d0, d1, d2, d3]) rfl ?_
  have hsay : TSays ⟨false, 0, none, 0, [], some ⟨w6.heap.size, 0, none⟩, 2, [⟨A3, c3, us3, A4, c4, us4⟩, ⟨A5, c5, us5, A6, c6, us6⟩]⟩ (ansT dsc st ⟨.ends, K, V, N⟩) := by
    refine ⟨fun b e => (by cases e), fun m e => (by cases e), fun l' e => (by cases e), fun ps e => ?_⟩
    have e2 : (match st.head?, st.getLast? with | some a, some b => some [a, b] | _, _ => none) = some ps := e
    split at e2
    · rename_i a b ha hb
      obtain rfl := Option.some.inj e2
      obtain rfl := HP1.out a ha
      obtain rfl := HP2.out b hb
      exact PairsOut.snoc (ps := [_]) (rs := [_]) (PairsOut.snoc PairsOut.nil HO3.out HO4.out) HO5.out HO6.out
    · cases e2
  have hW7 : W.heap[w6.heap.size]? = some (.cells #[.slice A3 us3.length c3, .slice A4 us4.length c4, .slice A5 us5.length c5, .slice A6 us6.length c6] 66 (0, 0)) := heap_chg HN7 hc (by omega)
  have hz : w6.heap.size < W.heap.size := lt_of_heap hW7
  have s3 := HE3.out.size
  have s4 := HE4.out.size
  have s5 := HE5.out.size
  have s6 := HE6.out.size
  have x3 := (((((HV3.out.below HE4.out).below HE5.out).below HE6.out).below hB7).chg hc (fun k hk e => by omega)).mono (E := fun z => w.heap.size ≤ z ∧ z < W.heap.size) (fun k hk => by omega)
  have x4 := ((((HV4.out.below HE5.out).below HE6.out).below hB7).chg hc (fun k hk e => by omega)).mono (E := fun z => w.heap.size ≤ z ∧ z < W.heap.size) (fun k hk => by omega)
  have x5 := (((HV5.out.below HE6.out).below hB7).chg hc (fun k hk e => by omega)).mono (E := fun z => w.heap.size ≤ z ∧ z < W.heap.size) (fun k hk => by omega)
  have x6 := ((HV6.out.below hB7).chg hc (fun k hk e => by omega)).mono (E := fun z => w.heap.size ≤ z ∧ z < W.heap.size) (fun k hk => by omega)
  refine read_fin HX.out rfl (below_fin (HB6.out.trans (hB7.mono HB6.out.size)) hc) hsay ⟨ValsIn.nil _ _, reads_two (r := ⟨A3, c3, us3, A4, c4, us4⟩) (s := ⟨A5, c5, us5, A6, c6, us6⟩) hW7, fun ad e => ?_, fun r hr => ?_, fun r hr => ?_⟩
  · obtain rfl := Option.some.inj e
    exact ⟨by show w.heap.size ≤ w6.heap.size; omega, hz⟩
  · simp at hr
    rcases hr with rfl | rfl
    · exact x3
    · exact x5
  · simp at hr
    rcases hr with rfl | rfl
    · exact x4
    · exact x6

end Go.Proofs.YtffgkocokkhahaaDoor

/- A new tree; impl.treeDeed, any deed; what holds between the deeds of impl.Tree. -/
namespace Go.Proofs.YtffgkocokkhahaaDoor
open Go.RowKit

set_option maxRecDepth 100000 in
set_option maxHeartbeats 1000000 in
theorem zzCollator_any (dsc : Bool) (w : World) : Calls Tryd.prog 36 #[.bool (!dsc)] w fun y w' => y = .returned (cmpV dsc) ∧ w' = w := by
  cases dsc
  · show Calls Tryd.prog 36 #[.bool true] w _
    go_enter Tryd.func36, Tryd.ntmps36
    go_wp2
    go_ret
    exact ⟨rfl, rfl⟩
  · show Calls Tryd.prog 36 #[.bool false] w _
    go_enter Tryd.func36, Tryd.ntmps36
    go_wp2
    go_ret
    exact ⟨rfl, rfl⟩

set_option maxRecDepth 100000 in
set_option maxHeartbeats 1000000 in
theorem treeNew_at (dsc : Bool) (w : World) : Calls Tryd.prog 35 #[cmpV dsc] w fun y w' => y = .returned (.pointer (some ⟨w.heap.size, 0, none⟩)) ∧ w' = w.alloc (.cells #[.int .i64 0, cmpV dsc, .pointer none, .pointer none, .nilIface, .int .i64 0] 125) := by
  cases dsc
  · show Calls Tryd.prog 35 #[.func (.func 65) #[] #[]] w fun y w' => y = .returned (.pointer (some ⟨w.heap.size, 0, none⟩)) ∧ w' = w.alloc (.cells #[.int .i64 0, .func (.func 65) #[] #[], .pointer none, .pointer none, .nilIface, .int .i64 0] 125)
    go_enter Tryd.func35, Tryd.ntmps35
    go_wp2
    go_ret
    exact ⟨rfl, rfl⟩
  · show Calls Tryd.prog 35 #[.func (.func 63) #[] #[]] w fun y w' => y = .returned (.pointer (some ⟨w.heap.size, 0, none⟩)) ∧ w' = w.alloc (.cells #[.int .i64 0, .func (.func 63) #[] #[], .pointer none, .pointer none, .nilIface, .int .i64 0] 125)
    go_enter Tryd.func35, Tryd.ntmps35
    go_wp2
    go_ret
    exact ⟨rfl, rfl⟩

def NewTreeP (dsc : Bool) (n : Nat) (w : World) (y : Ending) (w' : World) : Prop :=
  ∃ t, y = .returned (.pointer (some ⟨t, 0, none⟩)) ∧ w.heap.size ≤ t ∧ TrX dsc n t [] (fun k => k = t) (fun _ => False) w' ∧ Below w.heap.size w w'

set_option maxRecDepth 100000 in
set_option maxHeartbeats 1000000 in
theorem zzNewTree_any (dsc : Bool) (n : Nat) (w : World) : Calls Tryd.prog 21 #[.bool (!dsc)] w (NewTreeP dsc n w) := by
  go_enter Tryd.func21, Tryd.ntmps21
  go_wp2_with (first
    | (go_at_call 36
       refine (zzCollator_any dsc _).mono ?_
       rintro y w1 ⟨rfl, rfl⟩)
    | (go_at_call 35
       refine (treeNew_at dsc _).mono ?_
       rintro y w1 ⟨rfl, rfl⟩))
  go_ret
  exact ⟨_, rfl, Nat.le_refl _, ⟨⟨[], .none ⟨0, heap_new _ _⟩, rfl, fun e he => (by cases he)⟩, StOk.nil _ _, by simp, fun k hk => hk.elim⟩, (Below.refl _ _).alloc (Nat.le_refl _) _⟩

def TOp.s : TOp → ByteArray
  | .set => ⟨#[115, 101, 116]⟩
  | .get => ⟨#[103, 101, 116]⟩
  | .delete => ⟨#[100, 101, 108, 101, 116, 101]⟩
  | .clear => ⟨#[99, 108, 101, 97, 114]⟩
  | .len => ⟨#[108, 101, 110]⟩
  | .ends => ⟨#[101, 110, 100, 115]⟩
  | .first => ⟨#[102, 105, 114, 115, 116]⟩
  | .last => ⟨#[108, 97, 115, 116]⟩
  | .seek => ⟨#[115, 101, 101, 107]⟩

/-- A deed that a law hands to a tree whose keys have so many values. -/
structure TFit (n : Nat) (x : TD) : Prop where
  key : x.op = .set ∨ x.op = .get ∨ x.op = .delete ∨ x.op = .seek → x.K.length = n ∧ ConcL x.K
  conc : ConcL x.V
  short : x.V.length ≤ 1000
  lo : -1000 ≤ x.N
  hi : x.N ≤ 1000
  pos : x.N < 0 → x.op = .seek
theorem TFit.keyed {n : Nat} {x : TD} (h : TFit n x) : x.keyed n := fun hk => (h.key hk).1

/-- A deed in memory. -/
structure TDV where
  x : TD
  A : Option Addr
  c : Nat
  B : Option Addr
  d : Nat
def TDV.cells (v : TDV) : List Value := [.string v.x.op.s, .slice v.A v.x.K.length v.c, .slice v.B v.x.V.length v.d, .int .i64 v.x.N]
theorem TDV.four (v : TDV) : v.cells.length = 4 := rfl

theorem deed_any {dsc : Bool} {n t : Nat} {st : List PR} {M D : Nat → Prop} {w : World} {E : Value} (h : TrX dsc n t st M D w) (hE : HasEof w E) (hn : n ≤ 1000) (h9 : st.length + 1 ≤ 1000) (v : TDV) (hf : TFit n v.x) (hA : LAt w v.A v.x.K) (hB : LAt w v.B v.x.V) :
    Calls Tryd.prog 22 #[.pointer (some ⟨t, 0, none⟩), .agg #[.string v.x.op.s, .slice v.A v.x.K.length v.c, .slice v.B v.x.V.length v.d, .int .i64 v.x.N]] w (TDeedP dsc n t st v.x M D w) := by
  obtain ⟨⟨op, K, V, N⟩, A, c, B, d⟩ := v
  obtain ⟨hk, hcV, hlV, hlo, hhi, hpos⟩ := hf
  simp only at hk hcV hlV hlo hhi hpos hA hB
  have b0 : -1000000 ≤ N := Int.le_trans (by decide) hlo
  have b1 : N ≤ 1000000 := Int.le_trans hhi (by decide)
  cases op with
  | set => obtain ⟨hl, hcK⟩ := hk (.inl rfl); exact deed_set h hn hA hcK hl hB hcV hlV h9
  | get => obtain ⟨hl, hcK⟩ := hk (.inr (.inl rfl)); exact deed_get h hn hA hcK hl
  | delete => obtain ⟨hl, hcK⟩ := hk (.inr (.inr (.inl rfl))); exact deed_delete h hn hA hcK hl
  | clear => exact deed_clear h
  | len => exact deed_len h
  | ends => exact deed_ends h
  | first => exact deed_first h hE (by rcases Int.lt_or_le N 0 with h1 | h1; exact absurd (hpos h1) (by decide); exact h1) b1
  | last => exact deed_last h hE (by rcases Int.lt_or_le N 0 with h1 | h1; exact absurd (hpos h1) (by decide); exact h1) b1
  | seek =>
    obtain ⟨hl, hcK⟩ := hk (.inr (.inr (.inr rfl)))
    rcases Int.lt_trichotomy N 0 with h1 | h1 | h1
    · exact deed_seek_back h hn hA hcK hl hE h1 b0 b1
    · subst h1
      exact deed_seek_zero h hn hA hcK hl hE
    · exact deed_seek_on h hn hA hcK hl hE h1 b0 b1

/-- Answers that are what is to be told. -/
def TAnsAll (dsc : Bool) (ds : List TD) (av : List TAV) : Prop := ∀ (j : Nat) (a : TAV) (x : TD), av[j]? = some a → ds[j]? = some x → TSays a (ansT dsc (runT dsc [] (ds.take j)) x)

structure TrLoop (dsc : Bool) (n t : Nat) (ds : List TD) (kk : Nat) (w wr : World) (r : Value) (av bs : List TAV) (M D : Nat → Prop) : Prop where
  own : wr.ownsRow w.heap.size 35 4 r av.length (flat TAV.cells av)
  st : TrX dsc n t (runT dsc [] (ds.take kk)) M D wr
  ans : TAnsAll dsc ds bs
  ins : ∀ a ∈ bs, TAnsIn D wr a
  apart : ∀ b, r.ownBlock = some b → ¬ M b ∧ ¬ D b
  new : ∀ b, M b → w.heap.size ≤ b
  below : Below w.heap.size w wr

theorem take_snoc' {α : Type} {l : List α} {k : Nat} {d : α} (h : l[k]? = some d) : l.take (k + 1) = l.take k ++ [d] := by
  rw [List.take_add_one, h]
  rfl

section
variable {dsc : Bool} {n t : Nat} {ds : List TD} {kk : Nat} {w wr w2 w3 : World} {r : Value} {av bs : List TAV} {M D : Nat → Prop}

theorem TrLoop.start {w1 : World} (h : TrX dsc n t [] M D w1) (hM : ∀ k, M k → w.heap.size ≤ k) (hb : Below w.heap.size w w1) : TrLoop dsc n t ds 0 w w1 (.slice none 0 0) [] [] M D :=
  ⟨World.ownsRow_nil _ _ _ _, by rw [List.take_zero]; exact h, fun j a x ha => by simp at ha, fun a ha => (by cases ha), fun b hb => (by cases hb), hM, hb⟩

theorem TrLoop.under {w1 : World} (h : TrLoop dsc n t ds kk w wr r av bs M D) (hb : Below wr.heap.size wr w1) : TrLoop dsc n t ds kk w w1 r av bs M D := by
  have k0 : Chg (fun _ => False) wr w1 := Chg.of_below hb
  exact ⟨own_chg h.own k0 (fun _ _ h => h), h.st.below hb, h.ans, fun a ha => (h.ins a ha).chg k0 (fun _ _ h => h), h.apart, h.new, up_below h.below (Nat.le_refl _) (by have := h.below.size; exact ⟨hb.os, hb.tape, hb.output, hb.size, fun i hi => hb.block i (by omega)⟩)⟩

theorem TrLoop.step {x : TD} {y : Ending} (h : TrLoop dsc n t ds kk w wr r av av M D) (hkk : av.length = kk) (hx : ds[kk]? = some x) (hP : TDeedP dsc n t (runT dsc [] (ds.take kk)) x M D wr y w2) :
    ∃ a M' D', y = .returned (.agg #[.bool (a : TAV).is, .int .i64 a.n, .slice a.R a.us.length a.c, .slice a.P a.rs.length a.pc]) ∧ TrLoop dsc n t ds (kk + 1) w w2 r av (av ++ [a]) M' D' := by
  obtain ⟨a, M', D', rfl, hsay, hin, hX, hc, hD, hM', hD'⟩ := hP
  have hs := h.below.size
  have hDM : ∀ k, D k → ¬ M k := fun k hk => (h.st.data k hk).2
  refine ⟨a, M', D', rfl, own_chg h.own hc (fun b hb => (h.apart b hb).1), ?_, fun j b z hb hz => ?_, fun b hb => ?_, fun b hb => ?_, fun b hb => ?_, h.below.trans (hc.below hs h.new)⟩
  · rw [take_snoc' hx, runT_snoc]
    exact hX
  · rcases Nat.lt_or_ge j av.length with h1 | h1
    · rw [List.getElem?_append_left h1] at hb
      exact h.ans j b z hb hz
    · rw [List.getElem?_append_right h1] at hb
      cases hj0 : j - av.length with
      | zero =>
        rw [hj0] at hb
        obtain rfl := Option.some.inj hb
        have : j = kk := by omega
        subst this
        rw [hx] at hz
        obtain rfl := Option.some.inj hz
        exact hsay
      | succ i =>
        rw [hj0] at hb
        cases hb
  · rcases List.mem_append.1 hb with h1 | h1
    · exact ((h.ins b h1).chg hc hDM).mono hD
    · obtain rfl := List.mem_singleton.1 h1
      exact hin
  · have hlt := own_lt h.own hb
    exact ⟨fun hm => (hM' b hm).elim (h.apart b hb).1 (by omega), fun hd => (hD' b hd).elim (h.apart b hb).2 (by omega)⟩
  · exact (hM' b hb).elim (h.new b) (fun h1 => by omega)

theorem TrLoop.append {a : TAV} (h : TrLoop dsc n t ds kk w w2 r av (av ++ [a]) M D) {o : Obj} {v : Value} {m : Nat} (hn : m = av.length + 1) (hown : w3.ownsRow w.heap.size 35 4 v m (flat TAV.cells av ++ a.cells)) (hg : (w2.alloc o).grownBy w3 r.ownBlock)
    (hat : v.ownBlock = r.ownBlock ∨ v.ownBlock = some (w2.alloc o).heap.size) : TrLoop dsc n t ds kk w w3 v (av ++ [a]) (av ++ [a]) M D := by
  subst hn
  have hc : Chg (fun k => r.ownBlock = some k) w2 w3 := ((Chg.refl _ w2).alloc o).next (Chg.of_grown hg) (fun z _ h => h.symm)
  have e1 : flat TAV.cells (av ++ [a]) = flat TAV.cells av ++ a.cells := by simp [flat]
  refine ⟨by rw [e1]; simpa using hown, h.st.chg hc (fun k hk he => (h.apart k he).1 hk) (fun k hk he => (h.apart k he).2 hk), h.ans, fun b hb => (h.ins b hb).chg hc (fun k hk he => (h.apart k he).2 hk), fun b hb => ?_, h.new, h.below.trans (hc.below h.below.size (fun k he => own_ge h.own he))⟩
  rcases hat with e | e
  · rw [e] at hb; exact h.apart b hb
  · rw [e] at hb
    obtain rfl := Option.some.inj hb
    have hz : w2.heap.size < (w2.alloc o).heap.size := by simp
    exact ⟨fun hm => by have := h.st.lt hm; omega, fun hd => by have := (h.st.data _ hd).1; omega⟩
end

end Go.Proofs.YtffgkocokkhahaaDoor

/- impl.Tree: deeds to a new tree. -/
namespace Go.Proofs.YtffgkocokkhahaaDoor
open Go.RowKit

theorem info_tans : (Tryd.prog.info? 35).map (fun i => (i.zero, i.size, i.bytes)) = some (some (.agg #[.bool false, .int .i64 0, .slice none 0 0, .slice none 0 0]), 4, 64) := by kernel_rfl

theorem reads_tans (w : World) (a : TAV) (t : TypeId) : Reads (w.alloc (.cells #[.bool a.is, .int .i64 a.n, .slice a.R a.us.length a.c, .slice a.P a.rs.length a.pc] t)) (w.heap.size + 1) 4 (some ⟨w.heap.size, 0, none⟩) 1 a.cells :=
  ⟨rfl, fun _ => ⟨_, rfl, Nat.lt_succ_self _, fun j u hu => World.news_of_block (heap_new w _) j u hu⟩⟩

/-- Deeds lie in memory, each with its values. -/
def TDeedsAt (w : World) (A : Option Addr) (ds : List TDV) : Prop :=
  ∀ (i : Nat) (d : TDV), ds[i]? = some d → (∃ ad, A = some ad ∧ (ad.add (i * 4)).block < w.heap.size ∧ w.cell? (ad.add (i * 4)) = some (.string d.x.op.s) ∧ w.cell? ⟨(ad.add (i * 4)).block, (ad.add (i * 4)).off + 1, none⟩ = some (.slice d.A d.x.K.length d.c) ∧
    w.cell? ⟨(ad.add (i * 4)).block, (ad.add (i * 4)).off + 2, none⟩ = some (.slice d.B d.x.V.length d.d) ∧ w.cell? ⟨(ad.add (i * 4)).block, (ad.add (i * 4)).off + 3, none⟩ = some (.int .i64 d.x.N)) ∧ LAt w d.A d.x.K ∧ LAt w d.B d.x.V

theorem TDeedsAt.below {w w' : World} {A : Option Addr} {ds : List TDV} (h : TDeedsAt w A ds) (hb : Below w.heap.size w w') : TDeedsAt w' A ds := by
  intro i r hr
  obtain ⟨⟨ad, rfl, hlt, h0, h1, h2, h3⟩, hl, hv⟩ := h i r hr
  refine ⟨⟨ad, rfl, Nat.lt_of_lt_of_le hlt hb.size, ?_, ?_, ?_, ?_⟩, hl.below hb, hv.below hb⟩
  all_goals (rw [hb.cell (by exact hlt)]; assumption)

theorem madd_off (a : Addr) (k j : Nat) (hj : j ≠ 0) : a.add (k + j) = ⟨(a.add k).block, (a.add k).off + j, none⟩ := by
  unfold Addr.add
  by_cases hk : k = 0
  · subst hk
    rw [if_neg (by omega), if_pos rfl, Nat.zero_add]
  · rw [if_neg (by omega), if_neg hk, Nat.add_assoc]

theorem tdeeds_reads {w : World} {A : Option Addr} {ds : List TDV} {n : Nat} (h : Reads w w.heap.size 4 A n (flat TDV.cells ds)) (hn : ds.length = n) (hv : ∀ d ∈ ds, LAt w d.A d.x.K ∧ LAt w d.B d.x.V) : TDeedsAt w A ds := by
  intro i r hr
  have hi := (List.getElem?_eq_some_iff.1 hr).1
  obtain ⟨ad, rfl, hlt, hc⟩ := h.2 (by omega)
  have hat : ∀ (j : Nat) (v : Value), j < 4 → r.cells[j]? = some v → w.cell? (ad.add (i * 4 + j)) = some v := fun j v hj hv => hc _ _ (flat_at TDV.cells 4 TDV.four ds i r j v hr hj hv)
  refine ⟨⟨ad, rfl, by rw [block_add]; exact hlt, hat 0 _ (by omega) rfl, ?_, ?_, ?_⟩, hv r (List.mem_of_getElem? hr)⟩
  · rw [← madd_off ad (i * 4) 1 (by decide)]; exact hat 1 _ (by omega) rfl
  · rw [← madd_off ad (i * 4) 2 (by decide)]; exact hat 2 _ (by omega) rfl
  · rw [← madd_off ad (i * 4) 3 (by decide)]; exact hat 3 _ (by omega) rfl

/-- What impl.Tree tells. -/
def TreeP (dsc : Bool) (ds : List TD) (w : World) (y : Ending) (w' : World) : Prop :=
  ∃ A c av D, y = .returned (.slice A ds.length c) ∧ w'.ownsRow w.heap.size 35 4 (.slice A ds.length c) ds.length (flat TAV.cells av) ∧ av.length = ds.length ∧ TAnsAll dsc ds av ∧ (∀ a ∈ av, TAnsIn D w' a) ∧ (∀ k, D k → k < w'.heap.size) ∧ Below w.heap.size w w'

def StepQ (dsc : Bool) (n : Nat) (ds : List TD) (m k : Nat) (w : World) (r : Value) (av : List TAV) (y : Ending) (w2 : World) : Prop :=
  ∃ a M' D', y = .returned (.agg #[.bool (a : TAV).is, .int .i64 a.n, .slice a.R a.us.length a.c, .slice a.P a.rs.length a.pc]) ∧ TrLoop dsc n m ds (k + 1) w w2 r av (av ++ [a]) M' D'

theorem tr_step {dsc : Bool} {n : Nat} {dv : List TDV} {A : Option Addr} {w : World} {E : Value} (hn : n ≤ 1000) (hfit : ∀ d ∈ dv, TFit n d.x) (hlen : dv.length ≤ 900) (hE : HasEof w E) (hd : TDeedsAt w A dv)
    {m k : Nat} {wr : World} {r : Value} {av : List TAV} {M D : Nat → Prop} (h : TrLoop dsc n m (dv.map TDV.x) k w wr r av av M D) (hk : av.length = k) {d : TDV} (hdk : dv[k]? = some d) (w' : World) (hb : Below wr.heap.size wr w') :
    Calls Tryd.prog 22 #[.pointer (some ⟨m, 0, none⟩), .agg #[.string d.x.op.s, .slice d.A d.x.K.length d.c, .slice d.B d.x.V.length d.d, .int .i64 d.x.N]] w' (StepQ dsc n (dv.map TDV.x) m k w r av) := by
  have hlt := (List.getElem?_eq_some_iff.1 hdk).1
  have hx : (dv.map TDV.x)[k]? = some d.x := by rw [List.getElem?_map, hdk]; rfl
  have hU := h.under hb
  have hbw : Below w.heap.size w w' := hU.below
  have hl := runT_len dsc ((dv.map TDV.x).take k) []
  have h9 : (runT dsc [] ((dv.map TDV.x).take k)).length + 1 ≤ 1000 := by
    have : ((dv.map TDV.x).take k).length ≤ k := by simp; omega
    simp only [List.length_nil] at hl
    omega
  obtain ⟨_, hA, hB⟩ := (hd.below hbw) k d hdk
  exact (deed_any hU.st (hE.below hbw) hn h9 d (hfit d (List.mem_of_getElem? hdk)) hA hB).mono (fun y w2 hP => hU.step hk hx hP)

set_option maxRecDepth 100000 in
set_option maxHeartbeats 3200000 in
theorem tree_any {dsc : Bool} {n : Nat} {dv : List TDV} {A : Option Addr} {c : Nat} {w : World} {E : Value} (hn : n ≤ 1000) (hfit : ∀ d ∈ dv, TFit n d.x) (hlen : dv.length ≤ 900) (hE : HasEof w E) (hd : TDeedsAt w A dv) :
    Calls Tryd.prog 9 #[.bool dsc, .slice A dv.length c] w (TreeP dsc (dv.map TDV.x) w) := by
  obtain ⟨i0, hi, hz0, hz1, hz2⟩ := info_parts info_tans
  unfold TreeP
  have HSTEP := Lib.hid (fun (m k : Nat) (wr : World) (r : Value) (av : List TAV) (M D : Nat → Prop) (h : TrLoop dsc n m (dv.map TDV.x) k w wr r av av M D) (hk : av.length = k) (d : TDV) (hdk : dv[k]? = some d) (w' : World) (hb : Below wr.heap.size wr w') => tr_step hn hfit hlen hE hd h hk hdk w' hb)
  have HD := Lib.hid hd
  rw [List.length_map]
  obtain ⟨len, hlen1⟩ : ∃ len, len = dv.length := ⟨_, rfl⟩
  have HN : Hid (len = dv.length) := Lib.hid hlen1
  rw [← hlen1] at hlen ⊢
  clear hd hE hfit hlen1
  go_enter Tryd.func9, Tryd.ntmps9
  go_wp2_with (go_at_call 21
               refine (zzNewTree_any dsc n _).mono ?_
               rintro y w1 ⟨m, rfl, hm1, hX1, hb1⟩
               have HL0 : Hid (TrLoop dsc n m (dv.map TDV.x) 0 w w1 (.slice none 0 0) [] [] (fun k => k = m) (fun _ => False)) := Lib.hid (TrLoop.start hX1 (fun k hk => by rw [hk]; exact hm1) hb1)
               clear hX1 hb1 hm1)
  go_loopw [6, 14] (fun rv i wr => ∃ (k : Nat) (av : List TAV) (M D : Nat → Prop), k ≤ len ∧ i = .int .i64 k ∧ av.length = k ∧ TrLoop dsc n m (dv.map TDV.x) k w wr rv av av M D) (fun _ i _ => len - (intOf i).toNat)
  case atStart => exact ⟨0, [], _, _, by omega, rfl, rfl, HL0.out⟩
  case round =>
    obtain ⟨k, av, M, D, hk, rfl, hka, hL⟩ := hrel
    by_cases hlt : k < len
    · obtain ⟨d, hdk⟩ : ∃ d, dv[k]? = some d := ⟨_, List.getElem?_eq_getElem (by rw [← HN.out]; exact hlt)⟩
      obtain ⟨⟨ad, rfl, hbl, h0, h1, h2, h3⟩, _⟩ := (HD.out.below hL.below) k d hdk
      have HC := Lib.hid (HSTEP.out m k _ _ av M D hL hka d hdk)
      have HKA := Lib.hid hka
      clear hL hdk hka
      go_wp2_with (first
        | (go_at_call 22
           refine (HC.out _ (by repeat (first | exact Below.refl _ _ | refine Below.setCell ?_ (Nat.le_refl _) _ | refine Below.alloc ?_ (Nat.le_refl _) _))).mono ?_
           rintro y w2 ⟨a, M', D', rfl, hL⟩
           have HL := Lib.hid hL
           have HO := Lib.hid hL.own
           have hs2 := hL.below.size
           rw [HKA.out] at HO
           clear hL)
        | (at_builtin
           refine wpList_append_any _ rfl (.tmp 18) (.tmp 22) _ rfl w.heap.size 35 i0 _ 4 64 Tryd.underlying29 hi hz0 hz1 hz2 rfl (by omega) _ k (flat TAV.cells av) rfl
             (HO.out.alloc _) (w2.heap.size + 1) (some ⟨w2.heap.size, 0, none⟩) 1 1 a.cells rfl (reads_tans _ _ _) (fun u hu => by simp [TAV.cells] at hu; rcases hu with rfl | rfl | rfl | rfl <;> rfl) (by simp only [maxLen]; omega) (by omega) (by simp; omega) ?_
           intro v3 w3 hown3 hg3 hat3
           have HO3 := Lib.hid hown3; have HG3 := Lib.hid hg3; have HA3 := Lib.hid hat3; clear hown3 hg3 hat3))
      exact ⟨⟨k + 1, av ++ [a], M', D', by omega, by push_cast; rfl, by simp [HKA.out], HL.out.append (by rw [HKA.out]) HO3.out HG3.out HA3.out⟩, by simp [intOf]; omega⟩
    · have hke : k = len := by omega
      subst hke
      have hO := hL.own
      rw [hka] at hO
      obtain ⟨A', c', rfl⟩ := own_form hO
      have HO := Lib.hid hO
      have HL := Lib.hid hL
      clear hO hL
      go_wp2
      go_ret
      exact ⟨A', c', av, D, rfl, HO.out, hka, HL.out.ans, HL.out.ins, fun k hk => (HL.out.st.data k hk).1, HL.out.below⟩

end Go.Proofs.YtffgkocokkhahaaDoor

/- laws.zzFits16 (as Sl7, without impl.KeyCompare); a list of one value in new memory. -/
namespace Go.Proofs.YtffgkocokkhahaaDoor
open Go.RowKit

def numV (n : Int) : VV := ⟨int64S, n, 0, 0, empS⟩
theorem numV_conc : ConcL [numV 1] ∧ ConcL [numV 2] ∧ collV [numV 1] [numV 2] = -1 := by
  refine ⟨fun j x hx => ?_, fun j x hx => ?_, by decide +kernel⟩
  all_goals
    cases j with
    | zero =>
      obtain rfl := (Option.some.inj hx)
      exact ⟨by decide +kernel, by simp [numV, Rng]⟩
    | succ j => simp at hx

end Go.Proofs.YtffgkocokkhahaaDoor
