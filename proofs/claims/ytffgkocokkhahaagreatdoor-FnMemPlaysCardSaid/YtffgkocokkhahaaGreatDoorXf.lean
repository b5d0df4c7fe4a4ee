/-
  (*xtree).find in a leaf: the place of a key.
-/
import Derived.Test.YtffgkocokkhahaaGreatDoorXi
import Derived.Test.YtffgkocokkhahaaGreatDoorKo
import Derived.Deep.LoopGhost
namespace Go.Proofs.YtffgkocokkhahaaGreatDoor
open Go.RowKit

/-- What find asks of the order: how a key's values compare with those of each of some others. -/
def Asks (w : World) (u : Value) (es : List XE) (cs : Nat → Int) : Prop :=
  ∀ (j : Nat) (e : XE), es[j]? = some e → 0 ≤ e.h ∧ e.h ≤ 9223372036854775807 ∧ ∀ w', Below w.heap.size w w' → Calls Tryz.prog 96 #[u, .slice e.A e.m e.p] w' (ColP (cs j) w')

def FindP (i : Nat) (ok : Bool) (w : World) (x : Ending) (w' : World) : Prop := x = .returned (.tuple #[.int .i64 i, .bool ok]) ∧ Below w.heap.size w w'

set_option maxRecDepth 100000 in
set_option maxHeartbeats 1000000 in
theorem find_leaf (t q : Nat) (es : List XE) (rest : List Value) (nx pv : Value) (A : Option Addr) (m p : Nat) (h : Int) (cs : Nat → Int) (i : Nat) (ok : Bool) (w : World)
    (hq : PageAt w q es rest nx pv) (h0 : 0 ≤ h) (h1 : h ≤ 9223372036854775807)
    (ha : Asks w (.slice A m p) es cs) (s : Nat → Int) (hsd : ∀ (j : Nat) (e : XE), es[j]? = some e → s j = keyC (cs j) h e.h) (hp : Pos s es.length i ok) :
    Calls Tryz.prog 83 #[.pointer (some ⟨t, 0, none⟩), .iface 149 (.pointer (some ⟨q, 0, none⟩)), .agg #[.slice A m p, .int .i64 h]] w (FindP i ok w) := by
  obtain ⟨n, hn⟩ : ∃ n, n = es.length := ⟨_, rfl⟩
  have hnl := hq.le
  have cq0 : w.cell? ⟨q, 0, none⟩ = some (.int .i64 n) := by rw [hq.cell, hn]; rfl
  have lq := hq.lt
  rw [← hn] at hp hnl
  have HQ := Lib.hid hq
  have HN := Lib.hid hn
  have HA := Lib.hid ha
  have HP := Lib.hid hp
  have HSD := Lib.hid hsd
  clear hq hn ha hp hsd
  go_enter Tryz.func83, Tryz.ntmps83
  go_wp2
  obtain ⟨w0, hw0⟩ : ∃ w0, w0 = (w.alloc (.cells #[.slice A m p, .int .i64 h] 136)).alloc (.cells #[.slice none 0 0, .int .i64 0] 136) := ⟨_, rfl⟩
  go_loopw [9, 15] (fun l g wr => ∃ a b : Nat, l = .int .i64 a ∧ g = .int .i64 (b - 1) ∧ a ≤ i ∧ i ≤ b ∧ b ≤ n ∧ (ok = true → i < b) ∧ Below w.heap.size w wr ∧
      wr.heap[w.heap.size]? = some (.cells #[.slice A m p, .int .i64 h] 136 (0, 0)) ∧ ∃ u v, wr.heap[w.heap.size + 1]? = some (.cells #[u, v] 136 (0, 0))) (fun l g _ => (intOf g + 1 - intOf l).toNat)
  case atStart =>
    refine ⟨0, n, rfl, rfl, by omega, HP.out.le, Nat.le_refl _, fun h => (HP.out.hit h).1, ((Below.refl _ _).alloc (Nat.le_refl _) _).alloc (by simp) _, ?_, .slice none 0 0, .int .i64 0, ?_⟩
    · exact heap_old (heap_new w _) _
    · have hh := heap_new (w.alloc (.cells #[.slice A m p, .int .i64 h] 136)) (.cells #[.slice none 0 0, .int .i64 0] 136)
      have e : (w.alloc (.cells #[.slice A m p, .int .i64 h] 136)).heap.size = w.heap.size + 1 := by simp
      rw [e] at hh
      exact hh
  case round =>
    obtain ⟨a, b, rfl, rfl, hai, hib, hbn, hok, hbw, hk1, u, v, hk2⟩ := hrel
    have HK1 := Lib.hid hk1
    have HK2 := Lib.hid hk2
    have HB := Lib.hid hbw
    have HO := Lib.hid hok
    have hsz := hbw.size
    clear hk1 hk2 hbw hok
    by_cases hlt : a < b
    · have ht : (a : Int) ≤ ↑b - 1 := by omega
      obtain ⟨d, hd⟩ : ∃ d, d = (a + (b - 1)) / 2 := ⟨_, rfl⟩
      have hd1 : ((a : Int) + (↑b - 1)) / 2 = (d : Int) := by omega
      have hda : a ≤ d := by omega
      have hdb : d < b := by omega
      have hdn : d < n := by omega
      obtain ⟨e, he⟩ : ∃ e, es[d]? = some e := ⟨es[d]'(by rw [← HN.out]; exact hdn), List.getElem?_eq_getElem _⟩
      have HQ2 := Lib.hid (show PageAt wr q es rest nx pv from ⟨heap_below HQ.out.heap HB.out, HQ.out.room, HQ.out.one⟩)
      have ce0 : wr.cell? ⟨q, 1 + d * 3, none⟩ = some (.slice e.A e.m e.p) := (HQ2.out.cell _).trans (pgL_at XE.cells 3 XE.three es rest [nx, pv] d 0 e _ he (by omega) rfl)
      have ce1 : wr.cell? ⟨q, 1 + d * 3 + 1, none⟩ = some (.int .i64 e.h) := (HQ2.out.cell _).trans (pgL_at XE.cells 3 XE.three es rest [nx, pv] d 1 e _ he (by omega) rfl)
      have cm0 : wr.cell? ⟨w.heap.size + 1, 0, none⟩ = some u := cell_of_heap HK2.out 0
      have cm1 : wr.cell? ⟨w.heap.size + 1, 1, none⟩ = some v := cell_of_heap HK2.out 1
      have fm0 : wr.frozen? ⟨w.heap.size + 1, 0, none⟩ = false := free_of_heap HK2.out 0
      have fm1 : wr.frozen? ⟨w.heap.size + 1, 1, none⟩ = false := free_of_heap HK2.out 1
      have i1 : (d : Int) < 129 := by omega
      have i2 : (0 : Int) ≤ d := by omega
      have HD := Lib.hid hd
      obtain ⟨cc, hcc⟩ : ∃ cc, cc = keyC (cs d) h e.h := ⟨_, rfl⟩
      have hs : s d = cc := (HSD.out d e he).trans hcc.symm
      have HS1 := Lib.hid (show 0 < cc → d < i from fun hc => by
        rcases Nat.lt_or_ge d i with h' | h'
        · exact h'
        · exfalso
          rcases Nat.lt_or_ge i d with h2 | h2
          · have := HP.out.behind d h2 hdn; rw [hs] at this; omega
          · obtain rfl : d = i := by omega
            cases ok with
            | true => have := (HP.out.hit rfl).2; rw [hs] at this; omega
            | false => have := HP.out.miss rfl hdn; rw [hs] at this; omega)
      have HS2 := Lib.hid (show cc = 0 → d = i ∧ ok = true from fun hc => by
        rcases Nat.lt_trichotomy d i with h2 | h2 | h2
        · have := HP.out.ahead d h2; rw [hs] at this; omega
        · subst h2
          cases ok with
          | true => exact ⟨rfl, rfl⟩
          | false => have := HP.out.miss rfl hdn; rw [hs] at this; omega
        · have := HP.out.behind d h2 hdn; rw [hs] at this; omega)
      have HS3 := Lib.hid (show cc < 0 → i ≤ d ∧ (ok = true → i < d) from fun hc => by
        rcases Nat.lt_trichotomy d i with h2 | h2 | h2
        · have := HP.out.ahead d h2; rw [hs] at this; omega
        · subst h2
          cases ok with
          | true => have := (HP.out.hit rfl).2; rw [hs] at this; omega
          | false => exact ⟨Nat.le_refl _, fun h => by cases h⟩
        · exact ⟨by omega, fun _ => h2⟩)
      obtain ⟨g0, g1, gc⟩ := HA.out d e he
      have HG := Lib.hid gc
      have HCC := Lib.hid hcc
      clear he hd hw0 hs hcc gc cq0
      have HBW := Lib.hid (show Below w.heap.size w ((wr.setCell ⟨w.heap.size + 1, 0, none⟩ (.slice e.A e.m e.p)).setCell ⟨w.heap.size + 1, 1, none⟩ (.int .i64 e.h)) from (HB.out.setCell (p := ⟨w.heap.size + 1, 0, none⟩) (Nat.le_succ _) _).setCell (p := ⟨w.heap.size + 1, 1, none⟩) (Nat.le_succ _) _)
      have HM1 := Lib.hid (show ((wr.setCell ⟨w.heap.size + 1, 0, none⟩ (.slice e.A e.m e.p)).setCell ⟨w.heap.size + 1, 1, none⟩ (.int .i64 e.h)).heap[w.heap.size]? = some (.cells #[.slice A m p, .int .i64 h] 136 (0, 0)) by
        rw [heap_setCell_ne _ w.heap.size (w.heap.size + 1) _ _ (by omega), heap_setCell_ne _ w.heap.size (w.heap.size + 1) _ _ (by omega)]; exact HK1.out)
      have HM2 := Lib.hid (show ((wr.setCell ⟨w.heap.size + 1, 0, none⟩ (.slice e.A e.m e.p)).setCell ⟨w.heap.size + 1, 1, none⟩ (.int .i64 e.h)).heap[w.heap.size + 1]? = some (.cells #[.slice e.A e.m e.p, .int .i64 e.h] 136 (0, 0)) by
        rw [heap_setCell_at, heap_setCell_at, HK2.out]; rfl)
      have HCALL := Lib.hid (cmp_any (cs d) h e.h w.heap.size (w.heap.size + 1) (.slice A m p) (.slice e.A e.m e.p) h0 h1 g0 g1 _ (lt_of_heap HM1.out) (lt_of_heap HM2.out) (cell_of_heap HM1.out 0) (cell_of_heap HM1.out 1) (cell_of_heap HM2.out 0) (cell_of_heap HM2.out 1)
        (Lib.hid fun w' hb => HG.out w' (HBW.out.trans (hb.mono HBW.out.size))))
      have hcv := HCC.out
      rw [← hcv] at HCALL
      clear hcv
      rcases Int.lt_trichotomy cc 0 with hneg | hzero | hpos
      · have h3 := HS3.out hneg
        have H3 := Lib.hid h3
        clear h3
        go_wp2_with (go_at_call 107; refine HCALL.out.mono ?_; rintro x w2 ⟨rfl, hb2⟩)
        refine ⟨⟨a, d, rfl, rfl, hai, H3.out.1, by omega, H3.out.2, HBW.out.trans (hb2.mono HBW.out.size), heap_below HM1.out hb2, _, _, heap_below HM2.out hb2⟩, by simp [intOf]; omega⟩
      · have h3 := HS2.out hzero
        obtain ⟨rfl, rfl⟩ := h3
        subst hzero
        go_wp2_with (go_at_call 107; refine HCALL.out.mono ?_; rintro x w2 ⟨rfl, hb2⟩)
        go_ret2
        exact ⟨rfl, HBW.out.trans (hb2.mono HBW.out.size)⟩
      · have h3 := HS1.out hpos
        go_wp2_with (go_at_call 107; refine HCALL.out.mono ?_; rintro x w2 ⟨rfl, hb2⟩)
        refine ⟨⟨d + 1, b, by push_cast; rfl, rfl, by omega, hib, hbn, HO.out, HBW.out.trans (hb2.mono HBW.out.size), heap_below HM1.out hb2, _, _, heap_below HM2.out hb2⟩, by simp [intOf]; omega⟩
    · have hab : a = b := by omega
      subst hab
      obtain rfl : a = i := by omega
      have hok : ok = false := by
        cases ok with
        | true => exact absurd (HO.out rfl) (by omega)
        | false => rfl
      subst hok
      go_wp2
      go_ret2
      exact ⟨rfl, HB.out⟩

set_option maxRecDepth 100000 in
set_option maxHeartbeats 1000000 in
theorem find_root (t q b0 : Nat) (bs : List Nat) (es : List XE) (rest : List Value) (A : Option Addr) (m p : Nat) (h : Int) (cs : Nat → Int) (i : Nat) (ok : Bool) (w : World)
    (hq : RootAt w q b0 bs rest) (hk : ∀ (j b : Nat), bs[j]? = some b → ∃ fs re nx pv e, PageAt w b fs re nx pv ∧ fs[0]? = some e ∧ es[j]? = some e) (hlen : es.length = bs.length) (hb257 : bs.length ≤ 257) (h0 : 0 ≤ h) (h1 : h ≤ 9223372036854775807)
    (ha : Asks w (.slice A m p) es cs) (s : Nat → Int) (hsd : ∀ (j : Nat) (e : XE), es[j]? = some e → s j = keyC (cs j) h e.h) (hp : Pos s es.length i ok) :
    Calls Tryz.prog 83 #[.pointer (some ⟨t, 0, none⟩), .iface 169 (.pointer (some ⟨q, 0, none⟩)), .agg #[.slice A m p, .int .i64 h]] w (FindP i ok w) := by
  obtain ⟨n, hn⟩ : ∃ n, n = es.length := ⟨_, rfl⟩
  have hnl : n ≤ 257 := by omega
  have cq0 : w.cell? ⟨q, 0, none⟩ = some (.int .i64 n) := by rw [hq.cell, hn, hlen]; rfl
  have lq := hq.lt
  rw [← hn] at hp
  have HQ := Lib.hid hq
  have HN := Lib.hid hn
  have HA := Lib.hid ha
  have HP := Lib.hid hp
  have HSD := Lib.hid hsd
  have HK := Lib.hid hk
  have HLE := Lib.hid hlen
  clear hq hn ha hp hsd hk hlen
  go_enter Tryz.func83, Tryz.ntmps83
  go_wp2
  obtain ⟨w0, hw0⟩ : ∃ w0, w0 = (w.alloc (.cells #[.slice A m p, .int .i64 h] 136)).alloc (.cells #[.slice none 0 0, .int .i64 0] 136) := ⟨_, rfl⟩
  go_loopw [9, 11] (fun l g wr => ∃ a b : Nat, l = .int .i64 a ∧ g = .int .i64 (b - 1) ∧ a ≤ i ∧ i ≤ b ∧ b ≤ n ∧ (ok = true → i < b) ∧ Below w.heap.size w wr ∧
      wr.heap[w.heap.size]? = some (.cells #[.slice A m p, .int .i64 h] 136 (0, 0)) ∧ ∃ u v, wr.heap[w.heap.size + 1]? = some (.cells #[u, v] 136 (0, 0))) (fun l g _ => (intOf g + 1 - intOf l).toNat)
  case atStart =>
    refine ⟨0, n, rfl, rfl, by omega, HP.out.le, Nat.le_refl _, fun h => (HP.out.hit h).1, ((Below.refl _ _).alloc (Nat.le_refl _) _).alloc (by simp) _, ?_, .slice none 0 0, .int .i64 0, ?_⟩
    · exact heap_old (heap_new w _) _
    · have hh := heap_new (w.alloc (.cells #[.slice A m p, .int .i64 h] 136)) (.cells #[.slice none 0 0, .int .i64 0] 136)
      have e : (w.alloc (.cells #[.slice A m p, .int .i64 h] 136)).heap.size = w.heap.size + 1 := by simp
      rw [e] at hh
      exact hh
  case round =>
    obtain ⟨a, b, rfl, rfl, hai, hib, hbn, hok, hbw, hk1, u, v, hk2⟩ := hrel
    have HK1 := Lib.hid hk1
    have HK2 := Lib.hid hk2
    have HB := Lib.hid hbw
    have HO := Lib.hid hok
    have hsz := hbw.size
    clear hk1 hk2 hbw hok
    by_cases hlt : a < b
    · have ht : (a : Int) ≤ ↑b - 1 := by omega
      obtain ⟨d, hd⟩ : ∃ d, d = (a + (b - 1)) / 2 := ⟨_, rfl⟩
      have hd1 : ((a : Int) + (↑b - 1)) / 2 = (d : Int) := by omega
      have hda : a ≤ d := by omega
      have hdb : d < b := by omega
      have hdn : d < n := by omega
      obtain ⟨e, he⟩ : ∃ e, es[d]? = some e := ⟨es[d]'(by rw [← HN.out]; exact hdn), List.getElem?_eq_getElem _⟩
      obtain ⟨bd, hbd⟩ : ∃ b, bs[d]? = some b := ⟨bs[d]'(by rw [← HLE.out, ← HN.out]; exact hdn), List.getElem?_eq_getElem _⟩
      obtain ⟨fs, re, nx, pv, e', hpg, hf0, he'⟩ := HK.out d bd hbd
      obtain rfl : e = e' := Option.some.inj (he.symm.trans he')
      have cx : wr.cell? ⟨q, 1 + d * 2 + 1, none⟩ = some (.pointer (some ⟨bd, 0, none⟩)) := (HQ.out.below HB.out).sep hbd
      have ce0 : wr.cell? ⟨bd, 1, none⟩ = some (.slice e.A e.m e.p) := ((hpg.below HB.out).cell _).trans (by have := pgL_at XE.cells 3 XE.three fs re [nx, pv] 0 0 e _ hf0 (by omega) rfl; exact this)
      have ce1 : wr.cell? ⟨bd, 2, none⟩ = some (.int .i64 e.h) := ((hpg.below HB.out).cell _).trans (by have := pgL_at XE.cells 3 XE.three fs re [nx, pv] 0 1 e _ hf0 (by omega) rfl; exact this)
      clear hpg hf0 he' hbd
      have cm0 : wr.cell? ⟨w.heap.size + 1, 0, none⟩ = some u := cell_of_heap HK2.out 0
      have cm1 : wr.cell? ⟨w.heap.size + 1, 1, none⟩ = some v := cell_of_heap HK2.out 1
      have fm0 : wr.frozen? ⟨w.heap.size + 1, 0, none⟩ = false := free_of_heap HK2.out 0
      have fm1 : wr.frozen? ⟨w.heap.size + 1, 1, none⟩ = false := free_of_heap HK2.out 1
      have i1 : (d : Int) < 258 := by omega
      have i2 : (0 : Int) ≤ d := by omega
      have HD := Lib.hid hd
      obtain ⟨cc, hcc⟩ : ∃ cc, cc = keyC (cs d) h e.h := ⟨_, rfl⟩
      have hs : s d = cc := (HSD.out d e he).trans hcc.symm
      have HS1 := Lib.hid (show 0 < cc → d < i from fun hc => by
        rcases Nat.lt_or_ge d i with h' | h'
        · exact h'
        · exfalso
          rcases Nat.lt_or_ge i d with h2 | h2
          · have := HP.out.behind d h2 hdn; rw [hs] at this; omega
          · obtain rfl : d = i := by omega
            cases ok with
            | true => have := (HP.out.hit rfl).2; rw [hs] at this; omega
            | false => have := HP.out.miss rfl hdn; rw [hs] at this; omega)
      have HS2 := Lib.hid (show cc = 0 → d = i ∧ ok = true from fun hc => by
        rcases Nat.lt_trichotomy d i with h2 | h2 | h2
        · have := HP.out.ahead d h2; rw [hs] at this; omega
        · subst h2
          cases ok with
          | true => exact ⟨rfl, rfl⟩
          | false => have := HP.out.miss rfl hdn; rw [hs] at this; omega
        · have := HP.out.behind d h2 hdn; rw [hs] at this; omega)
      have HS3 := Lib.hid (show cc < 0 → i ≤ d ∧ (ok = true → i < d) from fun hc => by
        rcases Nat.lt_trichotomy d i with h2 | h2 | h2
        · have := HP.out.ahead d h2; rw [hs] at this; omega
        · subst h2
          cases ok with
          | true => have := (HP.out.hit rfl).2; rw [hs] at this; omega
          | false => exact ⟨Nat.le_refl _, fun h => by cases h⟩
        · exact ⟨by omega, fun _ => h2⟩)
      obtain ⟨g0, g1, gc⟩ := HA.out d e he
      have HG := Lib.hid gc
      have HCC := Lib.hid hcc
      clear he hd hw0 hs hcc gc cq0
      have HBW := Lib.hid (show Below w.heap.size w ((wr.setCell ⟨w.heap.size + 1, 0, none⟩ (.slice e.A e.m e.p)).setCell ⟨w.heap.size + 1, 1, none⟩ (.int .i64 e.h)) from (HB.out.setCell (p := ⟨w.heap.size + 1, 0, none⟩) (Nat.le_succ _) _).setCell (p := ⟨w.heap.size + 1, 1, none⟩) (Nat.le_succ _) _)
      have HM1 := Lib.hid (show ((wr.setCell ⟨w.heap.size + 1, 0, none⟩ (.slice e.A e.m e.p)).setCell ⟨w.heap.size + 1, 1, none⟩ (.int .i64 e.h)).heap[w.heap.size]? = some (.cells #[.slice A m p, .int .i64 h] 136 (0, 0)) by
        rw [heap_setCell_ne _ w.heap.size (w.heap.size + 1) _ _ (by omega), heap_setCell_ne _ w.heap.size (w.heap.size + 1) _ _ (by omega)]; exact HK1.out)
      have HM2 := Lib.hid (show ((wr.setCell ⟨w.heap.size + 1, 0, none⟩ (.slice e.A e.m e.p)).setCell ⟨w.heap.size + 1, 1, none⟩ (.int .i64 e.h)).heap[w.heap.size + 1]? = some (.cells #[.slice e.A e.m e.p, .int .i64 e.h] 136 (0, 0)) by
        rw [heap_setCell_at, heap_setCell_at, HK2.out]; rfl)
      have HCALL := Lib.hid (cmp_any (cs d) h e.h w.heap.size (w.heap.size + 1) (.slice A m p) (.slice e.A e.m e.p) h0 h1 g0 g1 _ (lt_of_heap HM1.out) (lt_of_heap HM2.out) (cell_of_heap HM1.out 0) (cell_of_heap HM1.out 1) (cell_of_heap HM2.out 0) (cell_of_heap HM2.out 1)
        (Lib.hid fun w' hb => HG.out w' (HBW.out.trans (hb.mono HBW.out.size))))
      have hcv := HCC.out
      rw [← hcv] at HCALL
      clear hcv
      rcases Int.lt_trichotomy cc 0 with hneg | hzero | hpos
      · have h3 := HS3.out hneg
        have H3 := Lib.hid h3
        clear h3
        go_wp2_with (go_at_call 107; refine HCALL.out.mono ?_; rintro x w2 ⟨rfl, hb2⟩)
        refine ⟨⟨a, d, rfl, rfl, hai, H3.out.1, by omega, H3.out.2, HBW.out.trans (hb2.mono HBW.out.size), heap_below HM1.out hb2, _, _, heap_below HM2.out hb2⟩, by simp [intOf]; omega⟩
      · have h3 := HS2.out hzero
        obtain ⟨rfl, rfl⟩ := h3
        subst hzero
        go_wp2_with (go_at_call 107; refine HCALL.out.mono ?_; rintro x w2 ⟨rfl, hb2⟩)
        go_ret2
        exact ⟨rfl, HBW.out.trans (hb2.mono HBW.out.size)⟩
      · have h3 := HS1.out hpos
        go_wp2_with (go_at_call 107; refine HCALL.out.mono ?_; rintro x w2 ⟨rfl, hb2⟩)
        refine ⟨⟨d + 1, b, by push_cast; rfl, rfl, by omega, hib, hbn, HO.out, HBW.out.trans (hb2.mono HBW.out.size), heap_below HM1.out hb2, _, _, heap_below HM2.out hb2⟩, by simp [intOf]; omega⟩
    · have hab : a = b := by omega
      subst hab
      obtain rfl : a = i := by omega
      have hok : ok = false := by
        cases ok with
        | true => exact absurd (HO.out rfl) (by omega)
        | false => rfl
      subst hok
      go_wp2
      go_ret2
      exact ⟨rfl, HB.out⟩

end Go.Proofs.YtffgkocokkhahaaGreatDoor
