/-
  (*tree).find in a leaf, at the root: the place of a key; for either order. PRINTED BY wip/tpl/gen_yf.py. || The index's tree in memory: a chain of pages, under a root where there are several. || Walking the tree: (*xenumerator).next, prev.
-/
import Derived.Test.YtffgkocokkhahaaDoorTp12
import Derived.Test.YtffgkocokkhahaaDoorTp11
import Derived.Deep.LoopGhost
import Derived.Test.YtffgkocokkhahaaDoorTp14

/- (*tree).find in a leaf, at the root: the place of a key; for either order. PRINTED BY wip/tpl/gen_yf.py. -/
namespace Go.Proofs.YtffgkocokkhahaaDoor
open Go.RowKit

/-- The function that compares: of the order, of the other one. -/
def cmpN : Bool → Nat
  | false => 65
  | true => 63
def cmpV (d : Bool) : Value := .func (.func (cmpN d)) #[] #[]

/-- What find asks of the order: how a key's values compare with those of each of some others. -/
def Asks (d : Bool) (w : World) (u : Value) (es : List XE) (cs : Nat → Int) : Prop :=
  ∀ (j : Nat) (e : XE), es[j]? = some e → ∀ w', Below w.heap.size w w' → Calls Tryd.prog (cmpN d) #[u, .slice e.A e.m e.p] w' (ColP (cs j) w')
theorem Asks.below {d : Bool} {w w' : World} {u : Value} {es : List XE} {cs : Nat → Int} (h : Asks d w u es cs) (hb : Below w.heap.size w w') : Asks d w' u es cs :=
  fun j e he w'' hb2 => h j e he w'' (hb.trans (hb2.mono hb.size))
/-- Of some entries within others. -/
theorem Asks.part {d : Bool} {w : World} {u : Value} {L es : List XE} {cs : Nat → Int} {o : Nat → Nat} (h : Asks d w u L cs) (ho : ∀ (j : Nat) (e : XE), es[j]? = some e → L[o j]? = some e) : Asks d w u es (fun j => cs (o j)) :=
  fun j e he => h (o j) e (ho j e he)

def FindP (i : Nat) (ok : Bool) (w : World) (x : Ending) (w' : World) : Prop := x = .returned (.tuple #[.int .i64 i, .bool ok]) ∧ Below w.heap.size w w'

/-- What a place tells of the middle. -/
theorem pos_up {s : Nat → Int} {n i d : Nat} {ok : Bool} (h : Pos s n i ok) (hd : d < n) (hc : 0 < s d) : d < i := by
  rcases Nat.lt_or_ge d i with h' | h'
  · exact h'
  · exfalso
    rcases Nat.lt_or_ge i d with h2 | h2
    · have := h.behind d h2 hd; omega
    · obtain rfl : d = i := by omega
      cases ok with
      | true => have := (h.hit rfl).2; omega
      | false => have := h.miss rfl hd; omega
theorem pos_here {s : Nat → Int} {n i d : Nat} {ok : Bool} (h : Pos s n i ok) (hd : d < n) (hc : s d = 0) : d = i ∧ ok = true := by
  rcases Nat.lt_trichotomy d i with h2 | h2 | h2
  · have := h.ahead d h2; omega
  · subst h2
    cases ok with
    | true => exact ⟨rfl, rfl⟩
    | false => have := h.miss rfl hd; omega
  · have := h.behind d h2 hd; omega
theorem pos_down {s : Nat → Int} {n i d : Nat} {ok : Bool} (h : Pos s n i ok) (hc : s d < 0) : i ≤ d ∧ (ok = true → i < d) := by
  rcases Nat.lt_trichotomy d i with h2 | h2 | h2
  · have := h.ahead d h2; omega
  · subst h2
    cases ok with
    | true => have := (h.hit rfl).2; omega
    | false => exact ⟨Nat.le_refl _, fun h => by cases h⟩
  · exact ⟨by omega, fun _ => h2⟩

set_option maxRecDepth 100000 in
set_option maxHeartbeats 1000000 in
theorem find_leaf_false (t q : Nat) (es : List XE) (rest : List Value) (nx pv : Value) (A : Option Addr) (m p : Nat) (cs : Nat → Int) (i : Nat) (ok : Bool) (c : Int) (fi la r : Value) (ver : Int) (w : World)
    (hq : PageAt w q es rest nx pv) (ht : TreeW (cmpV false) w t c fi la r ver) (ha : Asks false w (.slice A m p) es cs) (hp : Pos cs es.length i ok) :
    Calls Tryd.prog 70 #[.pointer (some ⟨t, 0, none⟩), .iface 123 (.pointer (some ⟨q, 0, none⟩)), .slice A m p] w (FindP i ok w) := by
  obtain ⟨n, hn⟩ : ∃ n, n = es.length := ⟨_, rfl⟩
  have hnl := hq.le
  have cq0 : w.cell? ⟨q, 0, none⟩ = some (.int .i64 n) := by rw [hq.cell, hn]; rfl
  rw [← hn] at hp hnl
  have lq := hq.lt
  have ct1 : w.cell? ⟨t, 1, none⟩ = some (.func (.func 65) #[] #[]) := cell_of_heap ht 1
  have lt := lt_of_heap ht
  have HQ := Lib.hid hq
  have HN := Lib.hid hn
  have HA := Lib.hid ha
  have HP := Lib.hid hp
  clear hq hn ha hp ht
  go_enter Tryd.func70, Tryd.ntmps70
  go_wp2
  go_loopw [9, 15] (fun l g wr => ∃ a b : Nat, l = .int .i64 a ∧ g = .int .i64 (b - 1) ∧ a ≤ i ∧ i ≤ b ∧ b ≤ n ∧ (ok = true → i < b) ∧ Below w.heap.size w wr) (fun l g _ => (intOf g + 1 - intOf l).toNat)
  case atStart => exact ⟨0, n, rfl, rfl, by omega, HP.out.le, Nat.le_refl _, fun h => (HP.out.hit h).1, Below.refl _ _⟩
  case round =>
    obtain ⟨a, b, rfl, rfl, hai, hib, hbn, hok, hbw⟩ := hrel
    have HB := Lib.hid hbw
    have HO := Lib.hid hok
    have ct := (hbw.cell (p := ⟨t, 1, none⟩) lt).trans ct1
    have hsz := hbw.size
    clear hbw hok
    by_cases hlt : a < b
    · have ht : (a : Int) ≤ ↑b - 1 := by omega
      obtain ⟨d, hd⟩ : ∃ d, d = (a + (b - 1)) / 2 := ⟨_, rfl⟩
      have hd1 : ((a : Int) + (↑b - 1)) / 2 = (d : Int) := by omega
      have hda : a ≤ d := by omega
      have hdb : d < b := by omega
      have hdn : d < n := by omega
      obtain ⟨e, he⟩ : ∃ e, es[d]? = some e := ⟨es[d]'(by rw [← HN.out]; exact hdn), List.getElem?_eq_getElem _⟩
      have ce0 : wr.cell? ⟨q, 1 + d * 2, none⟩ = some (.slice e.A e.m e.p) := ((HQ.out.below HB.out).cell _).trans (pgL_at XE.cells 2 XE.two es rest [nx, pv] d 0 e _ he (by omega) rfl)
      have i1 : (d : Int) < 129 := by omega
      have i2 : (0 : Int) ≤ d := by omega
      obtain ⟨cc, hcc⟩ : ∃ cc, cc = cs d := ⟨_, rfl⟩
      have HCALL := Lib.hid (fun w' (hb : Below wr.heap.size wr w') => HA.out d e he w' (up_below' HB.out hb))
      rw [← hcc] at HCALL
      have HD := Lib.hid hd
      have H1 := Lib.hid (fun h => pos_up HP.out hdn (d := d) (by rw [← hcc]; exact h))
      have H2 := Lib.hid (fun h => pos_here HP.out hdn (d := d) (hcc.symm.trans h))
      have H3 := Lib.hid (fun h => pos_down HP.out (d := d) (by rw [← hcc]; exact h))
      clear he hd hcc cq0
      rcases Int.lt_trichotomy cc 0 with hneg | hzero | hpos
      · have H4 := Lib.hid (H3.out hneg)
        go_wp2_with (go_at_call 65; refine (HCALL.out _ (by repeat (first | exact Below.refl _ _ | refine Below.drew ?_ | refine below_drewN ?_ _))).mono ?_; rintro x w2 ⟨rfl, hb2⟩)
        exact ⟨⟨a, d, rfl, rfl, hai, H4.out.1, by omega, H4.out.2, up_below' HB.out hb2⟩, by simp [intOf]; omega⟩
      · obtain ⟨rfl, rfl⟩ := H2.out hzero
        subst hzero
        go_wp2_with (go_at_call 65; refine (HCALL.out _ (by repeat (first | exact Below.refl _ _ | refine Below.drew ?_ | refine below_drewN ?_ _))).mono ?_; rintro x w2 ⟨rfl, hb2⟩)
        go_ret2
        exact ⟨rfl, up_below' HB.out hb2⟩
      · have h3 := H1.out hpos
        go_wp2_with (go_at_call 65; refine (HCALL.out _ (by repeat (first | exact Below.refl _ _ | refine Below.drew ?_ | refine below_drewN ?_ _))).mono ?_; rintro x w2 ⟨rfl, hb2⟩)
        exact ⟨⟨d + 1, b, by push_cast; rfl, rfl, by omega, hib, hbn, HO.out, up_below' HB.out hb2⟩, by simp [intOf]; omega⟩
    · have hab : a = b := by omega
      subst hab
      obtain rfl : a = i := by omega
      have hok : ok = false := by
        cases ok with
        | true => exact absurd (HO.out rfl) (by omega)
        | false => rfl
      subst hok
      go_wp2
      go_ret2
      exact ⟨rfl, HB.out⟩

set_option maxRecDepth 100000 in
set_option maxHeartbeats 1000000 in
theorem find_leaf_true (t q : Nat) (es : List XE) (rest : List Value) (nx pv : Value) (A : Option Addr) (m p : Nat) (cs : Nat → Int) (i : Nat) (ok : Bool) (c : Int) (fi la r : Value) (ver : Int) (w : World)
    (hq : PageAt w q es rest nx pv) (ht : TreeW (cmpV true) w t c fi la r ver) (ha : Asks true w (.slice A m p) es cs) (hp : Pos cs es.length i ok) :
    Calls Tryd.prog 70 #[.pointer (some ⟨t, 0, none⟩), .iface 123 (.pointer (some ⟨q, 0, none⟩)), .slice A m p] w (FindP i ok w) := by
  obtain ⟨n, hn⟩ : ∃ n, n = es.length := ⟨_, rfl⟩
  have hnl := hq.le
  have cq0 : w.cell? ⟨q, 0, none⟩ = some (.int .i64 n) := by rw [hq.cell, hn]; rfl
  rw [← hn] at hp hnl
  have lq := hq.lt
  have ct1 : w.cell? ⟨t, 1, none⟩ = some (.func (.func 63) #[] #[]) := cell_of_heap ht 1
  have lt := lt_of_heap ht
  have HQ := Lib.hid hq
  have HN := Lib.hid hn
  have HA := Lib.hid ha
  have HP := Lib.hid hp
  clear hq hn ha hp ht
  go_enter Tryd.func70, Tryd.ntmps70
  go_wp2
  go_loopw [9, 15] (fun l g wr => ∃ a b : Nat, l = .int .i64 a ∧ g = .int .i64 (b - 1) ∧ a ≤ i ∧ i ≤ b ∧ b ≤ n ∧ (ok = true → i < b) ∧ Below w.heap.size w wr) (fun l g _ => (intOf g + 1 - intOf l).toNat)
  case atStart => exact ⟨0, n, rfl, rfl, by omega, HP.out.le, Nat.le_refl _, fun h => (HP.out.hit h).1, Below.refl _ _⟩
  case round =>
    obtain ⟨a, b, rfl, rfl, hai, hib, hbn, hok, hbw⟩ := hrel
    have HB := Lib.hid hbw
    have HO := Lib.hid hok
    have ct := (hbw.cell (p := ⟨t, 1, none⟩) lt).trans ct1
    have hsz := hbw.size
    clear hbw hok
    by_cases hlt : a < b
    · have ht : (a : Int) ≤ ↑b - 1 := by omega
      obtain ⟨d, hd⟩ : ∃ d, d = (a + (b - 1)) / 2 := ⟨_, rfl⟩
      have hd1 : ((a : Int) + (↑b - 1)) / 2 = (d : Int) := by omega
      have hda : a ≤ d := by omega
      have hdb : d < b := by omega
      have hdn : d < n := by omega
      obtain ⟨e, he⟩ : ∃ e, es[d]? = some e := ⟨es[d]'(by rw [← HN.out]; exact hdn), List.getElem?_eq_getElem _⟩
      have ce0 : wr.cell? ⟨q, 1 + d * 2, none⟩ = some (.slice e.A e.m e.p) := ((HQ.out.below HB.out).cell _).trans (pgL_at XE.cells 2 XE.two es rest [nx, pv] d 0 e _ he (by omega) rfl)
      have i1 : (d : Int) < 129 := by omega
      have i2 : (0 : Int) ≤ d := by omega
      obtain ⟨cc, hcc⟩ : ∃ cc, cc = cs d := ⟨_, rfl⟩
      have HCALL := Lib.hid (fun w' (hb : Below wr.heap.size wr w') => HA.out d e he w' (up_below' HB.out hb))
      rw [← hcc] at HCALL
      have HD := Lib.hid hd
      have H1 := Lib.hid (fun h => pos_up HP.out hdn (d := d) (by rw [← hcc]; exact h))
      have H2 := Lib.hid (fun h => pos_here HP.out hdn (d := d) (hcc.symm.trans h))
      have H3 := Lib.hid (fun h => pos_down HP.out (d := d) (by rw [← hcc]; exact h))
      clear he hd hcc cq0
      rcases Int.lt_trichotomy cc 0 with hneg | hzero | hpos
      · have H4 := Lib.hid (H3.out hneg)
        go_wp2_with (go_at_call 63; refine (HCALL.out _ (by repeat (first | exact Below.refl _ _ | refine Below.drew ?_ | refine below_drewN ?_ _))).mono ?_; rintro x w2 ⟨rfl, hb2⟩)
        exact ⟨⟨a, d, rfl, rfl, hai, H4.out.1, by omega, H4.out.2, up_below' HB.out hb2⟩, by simp [intOf]; omega⟩
      · obtain ⟨rfl, rfl⟩ := H2.out hzero
        subst hzero
        go_wp2_with (go_at_call 63; refine (HCALL.out _ (by repeat (first | exact Below.refl _ _ | refine Below.drew ?_ | refine below_drewN ?_ _))).mono ?_; rintro x w2 ⟨rfl, hb2⟩)
        go_ret2
        exact ⟨rfl, up_below' HB.out hb2⟩
      · have h3 := H1.out hpos
        go_wp2_with (go_at_call 63; refine (HCALL.out _ (by repeat (first | exact Below.refl _ _ | refine Below.drew ?_ | refine below_drewN ?_ _))).mono ?_; rintro x w2 ⟨rfl, hb2⟩)
        exact ⟨⟨d + 1, b, by push_cast; rfl, rfl, by omega, hib, hbn, HO.out, up_below' HB.out hb2⟩, by simp [intOf]; omega⟩
    · have hab : a = b := by omega
      subst hab
      obtain rfl : a = i := by omega
      have hok : ok = false := by
        cases ok with
        | true => exact absurd (HO.out rfl) (by omega)
        | false => rfl
      subst hok
      go_wp2
      go_ret2
      exact ⟨rfl, HB.out⟩

set_option maxRecDepth 100000 in
set_option maxHeartbeats 1000000 in
theorem find_root_false (t q b0 : Nat) (bs : List Nat) (es : List XE) (rest : List Value) (A : Option Addr) (m p : Nat) (cs : Nat → Int) (i : Nat) (ok : Bool) (c : Int) (fi la r : Value) (ver : Int) (w : World)
    (hq : RootAt w q b0 bs rest) (ht : TreeW (cmpV false) w t c fi la r ver) (hk : ∀ (j b : Nat), bs[j]? = some b → ∃ fs re nx pv e, PageAt w b fs re nx pv ∧ fs[0]? = some e ∧ es[j]? = some e) (hlen : es.length = bs.length) (hb257 : bs.length ≤ 257)
    (ha : Asks false w (.slice A m p) es cs) (hp : Pos cs es.length i ok) :
    Calls Tryd.prog 70 #[.pointer (some ⟨t, 0, none⟩), .iface 126 (.pointer (some ⟨q, 0, none⟩)), .slice A m p] w (FindP i ok w) := by
  obtain ⟨n, hn⟩ : ∃ n, n = es.length := ⟨_, rfl⟩
  have hnl : n ≤ 257 := by omega
  have cq0 : w.cell? ⟨q, 0, none⟩ = some (.int .i64 n) := by rw [hq.cell, hn, hlen]; rfl
  rw [← hn] at hp
  have lq := hq.lt
  have ct1 : w.cell? ⟨t, 1, none⟩ = some (.func (.func 65) #[] #[]) := cell_of_heap ht 1
  have lt := lt_of_heap ht
  have HQ := Lib.hid hq
  have HN := Lib.hid hn
  have HA := Lib.hid ha
  have HP := Lib.hid hp
  have HK := Lib.hid hk
  have HLE := Lib.hid hlen
  clear hq hn ha hp ht hk hlen
  go_enter Tryd.func70, Tryd.ntmps70
  go_wp2
  go_loopw [9, 11] (fun l g wr => ∃ a b : Nat, l = .int .i64 a ∧ g = .int .i64 (b - 1) ∧ a ≤ i ∧ i ≤ b ∧ b ≤ n ∧ (ok = true → i < b) ∧ Below w.heap.size w wr) (fun l g _ => (intOf g + 1 - intOf l).toNat)
  case atStart => exact ⟨0, n, rfl, rfl, by omega, HP.out.le, Nat.le_refl _, fun h => (HP.out.hit h).1, Below.refl _ _⟩
  case round =>
    obtain ⟨a, b, rfl, rfl, hai, hib, hbn, hok, hbw⟩ := hrel
    have HB := Lib.hid hbw
    have HO := Lib.hid hok
    have ct := (hbw.cell (p := ⟨t, 1, none⟩) lt).trans ct1
    have hsz := hbw.size
    clear hbw hok
    by_cases hlt : a < b
    · have ht : (a : Int) ≤ ↑b - 1 := by omega
      obtain ⟨d, hd⟩ : ∃ d, d = (a + (b - 1)) / 2 := ⟨_, rfl⟩
      have hd1 : ((a : Int) + (↑b - 1)) / 2 = (d : Int) := by omega
      have hda : a ≤ d := by omega
      have hdb : d < b := by omega
      have hdn : d < n := by omega
      obtain ⟨e, he⟩ : ∃ e, es[d]? = some e := ⟨es[d]'(by rw [← HN.out]; exact hdn), List.getElem?_eq_getElem _⟩
      obtain ⟨bd, hbd⟩ : ∃ b, bs[d]? = some b := ⟨bs[d]'(by rw [← HLE.out, ← HN.out]; exact hdn), List.getElem?_eq_getElem _⟩
      obtain ⟨fs, re, nx, pv, e', hpg, hf0, he'⟩ := HK.out d bd hbd
      obtain rfl : e = e' := Option.some.inj (he.symm.trans he')
      have cx : wr.cell? ⟨q, 1 + d * 2 + 1, none⟩ = some (.pointer (some ⟨bd, 0, none⟩)) := (HQ.out.below HB.out).sep hbd
      have ce0 : wr.cell? ⟨bd, 1, none⟩ = some (.slice e.A e.m e.p) := ((hpg.below HB.out).cell _).trans (by have := pgL_at XE.cells 2 XE.two fs re [nx, pv] 0 0 e _ hf0 (by omega) rfl; exact this)
      clear hpg hf0 he' hbd
      have i1 : (d : Int) < 258 := by omega
      have i2 : (0 : Int) ≤ d := by omega
      obtain ⟨cc, hcc⟩ : ∃ cc, cc = cs d := ⟨_, rfl⟩
      have HCALL := Lib.hid (fun w' (hb : Below wr.heap.size wr w') => HA.out d e he w' (up_below' HB.out hb))
      rw [← hcc] at HCALL
      have HD := Lib.hid hd
      have H1 := Lib.hid (fun h => pos_up HP.out hdn (d := d) (by rw [← hcc]; exact h))
      have H2 := Lib.hid (fun h => pos_here HP.out hdn (d := d) (hcc.symm.trans h))
      have H3 := Lib.hid (fun h => pos_down HP.out (d := d) (by rw [← hcc]; exact h))
      clear he hd hcc cq0
      rcases Int.lt_trichotomy cc 0 with hneg | hzero | hpos
      · have H4 := Lib.hid (H3.out hneg)
        go_wp2_with (go_at_call 65; refine (HCALL.out _ (by repeat (first | exact Below.refl _ _ | refine Below.drew ?_ | refine below_drewN ?_ _))).mono ?_; rintro x w2 ⟨rfl, hb2⟩)
        exact ⟨⟨a, d, rfl, rfl, hai, H4.out.1, by omega, H4.out.2, up_below' HB.out hb2⟩, by simp [intOf]; omega⟩
      · obtain ⟨rfl, rfl⟩ := H2.out hzero
        subst hzero
        go_wp2_with (go_at_call 65; refine (HCALL.out _ (by repeat (first | exact Below.refl _ _ | refine Below.drew ?_ | refine below_drewN ?_ _))).mono ?_; rintro x w2 ⟨rfl, hb2⟩)
        go_ret2
        exact ⟨rfl, up_below' HB.out hb2⟩
      · have h3 := H1.out hpos
        go_wp2_with (go_at_call 65; refine (HCALL.out _ (by repeat (first | exact Below.refl _ _ | refine Below.drew ?_ | refine below_drewN ?_ _))).mono ?_; rintro x w2 ⟨rfl, hb2⟩)
        exact ⟨⟨d + 1, b, by push_cast; rfl, rfl, by omega, hib, hbn, HO.out, up_below' HB.out hb2⟩, by simp [intOf]; omega⟩
    · have hab : a = b := by omega
      subst hab
      obtain rfl : a = i := by omega
      have hok : ok = false := by
        cases ok with
        | true => exact absurd (HO.out rfl) (by omega)
        | false => rfl
      subst hok
      go_wp2
      go_ret2
      exact ⟨rfl, HB.out⟩

set_option maxRecDepth 100000 in
set_option maxHeartbeats 1000000 in
theorem find_root_true (t q b0 : Nat) (bs : List Nat) (es : List XE) (rest : List Value) (A : Option Addr) (m p : Nat) (cs : Nat → Int) (i : Nat) (ok : Bool) (c : Int) (fi la r : Value) (ver : Int) (w : World)
    (hq : RootAt w q b0 bs rest) (ht : TreeW (cmpV true) w t c fi la r ver) (hk : ∀ (j b : Nat), bs[j]? = some b → ∃ fs re nx pv e, PageAt w b fs re nx pv ∧ fs[0]? = some e ∧ es[j]? = some e) (hlen : es.length = bs.length) (hb257 : bs.length ≤ 257)
    (ha : Asks true w (.slice A m p) es cs) (hp : Pos cs es.length i ok) :
    Calls Tryd.prog 70 #[.pointer (some ⟨t, 0, none⟩), .iface 126 (.pointer (some ⟨q, 0, none⟩)), .slice A m p] w (FindP i ok w) := by
  obtain ⟨n, hn⟩ : ∃ n, n = es.length := ⟨_, rfl⟩
  have hnl : n ≤ 257 := by omega
  have cq0 : w.cell? ⟨q, 0, none⟩ = some (.int .i64 n) := by rw [hq.cell, hn, hlen]; rfl
  rw [← hn] at hp
  have lq := hq.lt
  have ct1 : w.cell? ⟨t, 1, none⟩ = some (.func (.func 63) #[] #[]) := cell_of_heap ht 1
  have lt := lt_of_heap ht
  have HQ := Lib.hid hq
  have HN := Lib.hid hn
  have HA := Lib.hid ha
  have HP := Lib.hid hp
  have HK := Lib.hid hk
  have HLE := Lib.hid hlen
  clear hq hn ha hp ht hk hlen
  go_enter Tryd.func70, Tryd.ntmps70
  go_wp2
  go_loopw [9, 11] (fun l g wr => ∃ a b : Nat, l = .int .i64 a ∧ g = .int .i64 (b - 1) ∧ a ≤ i ∧ i ≤ b ∧ b ≤ n ∧ (ok = true → i < b) ∧ Below w.heap.size w wr) (fun l g _ => (intOf g + 1 - intOf l).toNat)
  case atStart => exact ⟨0, n, rfl, rfl, by omega, HP.out.le, Nat.le_refl _, fun h => (HP.out.hit h).1, Below.refl _ _⟩
  case round =>
    obtain ⟨a, b, rfl, rfl, hai, hib, hbn, hok, hbw⟩ := hrel
    have HB := Lib.hid hbw
    have HO := Lib.hid hok
    have ct := (hbw.cell (p := ⟨t, 1, none⟩) lt).trans ct1
    have hsz := hbw.size
    clear hbw hok
    by_cases hlt : a < b
    · have ht : (a : Int) ≤ ↑b - 1 := by omega
      obtain ⟨d, hd⟩ : ∃ d, d = (a + (b - 1)) / 2 := ⟨_, rfl⟩
      have hd1 : ((a : Int) + (↑b - 1)) / 2 = (d : Int) := by omega
      have hda : a ≤ d := by omega
      have hdb : d < b := by omega
      have hdn : d < n := by omega
      obtain ⟨e, he⟩ : ∃ e, es[d]? = some e := ⟨es[d]'(by rw [← HN.out]; exact hdn), List.getElem?_eq_getElem _⟩
      obtain ⟨bd, hbd⟩ : ∃ b, bs[d]? = some b := ⟨bs[d]'(by rw [← HLE.out, ← HN.out]; exact hdn), List.getElem?_eq_getElem _⟩
      obtain ⟨fs, re, nx, pv, e', hpg, hf0, he'⟩ := HK.out d bd hbd
      obtain rfl : e = e' := Option.some.inj (he.symm.trans he')
      have cx : wr.cell? ⟨q, 1 + d * 2 + 1, none⟩ = some (.pointer (some ⟨bd, 0, none⟩)) := (HQ.out.below HB.out).sep hbd
      have ce0 : wr.cell? ⟨bd, 1, none⟩ = some (.slice e.A e.m e.p) := ((hpg.below HB.out).cell _).trans (by have := pgL_at XE.cells 2 XE.two fs re [nx, pv] 0 0 e _ hf0 (by omega) rfl; exact this)
      clear hpg hf0 he' hbd
      have i1 : (d : Int) < 258 := by omega
      have i2 : (0 : Int) ≤ d := by omega
      obtain ⟨cc, hcc⟩ : ∃ cc, cc = cs d := ⟨_, rfl⟩
      have HCALL := Lib.hid (fun w' (hb : Below wr.heap.size wr w') => HA.out d e he w' (up_below' HB.out hb))
      rw [← hcc] at HCALL
      have HD := Lib.hid hd
      have H1 := Lib.hid (fun h => pos_up HP.out hdn (d := d) (by rw [← hcc]; exact h))
      have H2 := Lib.hid (fun h => pos_here HP.out hdn (d := d) (hcc.symm.trans h))
      have H3 := Lib.hid (fun h => pos_down HP.out (d := d) (by rw [← hcc]; exact h))
      clear he hd hcc cq0
      rcases Int.lt_trichotomy cc 0 with hneg | hzero | hpos
      · have H4 := Lib.hid (H3.out hneg)
        go_wp2_with (go_at_call 63; refine (HCALL.out _ (by repeat (first | exact Below.refl _ _ | refine Below.drew ?_ | refine below_drewN ?_ _))).mono ?_; rintro x w2 ⟨rfl, hb2⟩)
        exact ⟨⟨a, d, rfl, rfl, hai, H4.out.1, by omega, H4.out.2, up_below' HB.out hb2⟩, by simp [intOf]; omega⟩
      · obtain ⟨rfl, rfl⟩ := H2.out hzero
        subst hzero
        go_wp2_with (go_at_call 63; refine (HCALL.out _ (by repeat (first | exact Below.refl _ _ | refine Below.drew ?_ | refine below_drewN ?_ _))).mono ?_; rintro x w2 ⟨rfl, hb2⟩)
        go_ret2
        exact ⟨rfl, up_below' HB.out hb2⟩
      · have h3 := H1.out hpos
        go_wp2_with (go_at_call 63; refine (HCALL.out _ (by repeat (first | exact Below.refl _ _ | refine Below.drew ?_ | refine below_drewN ?_ _))).mono ?_; rintro x w2 ⟨rfl, hb2⟩)
        exact ⟨⟨d + 1, b, by push_cast; rfl, rfl, by omega, hib, hbn, HO.out, up_below' HB.out hb2⟩, by simp [intOf]; omega⟩
    · have hab : a = b := by omega
      subst hab
      obtain rfl : a = i := by omega
      have hok : ok = false := by
        cases ok with
        | true => exact absurd (HO.out rfl) (by omega)
        | false => rfl
      subst hok
      go_wp2
      go_ret2
      exact ⟨rfl, HB.out⟩

theorem find_leaf {d : Bool} (t q : Nat) (es : List XE) (rest : List Value) (nx pv : Value) (A : Option Addr) (m p : Nat) (cs : Nat → Int) (i : Nat) (ok : Bool) (c : Int) (fi la r : Value) (ver : Int) (w : World)
    (hq : PageAt w q es rest nx pv) (ht : TreeW (cmpV d) w t c fi la r ver) (ha : Asks d w (.slice A m p) es cs) (hp : Pos cs es.length i ok) :
    Calls Tryd.prog 70 #[.pointer (some ⟨t, 0, none⟩), .iface 123 (.pointer (some ⟨q, 0, none⟩)), .slice A m p] w (FindP i ok w) := by
  cases d with
  | false => exact find_leaf_false t q es rest nx pv A m p cs i ok c fi la r ver w hq ht ha hp
  | true => exact find_leaf_true t q es rest nx pv A m p cs i ok c fi la r ver w hq ht ha hp
theorem find_root {d : Bool} (t q b0 : Nat) (bs : List Nat) (es : List XE) (rest : List Value) (A : Option Addr) (m p : Nat) (cs : Nat → Int) (i : Nat) (ok : Bool) (c : Int) (fi la r : Value) (ver : Int) (w : World)
    (hq : RootAt w q b0 bs rest) (ht : TreeW (cmpV d) w t c fi la r ver) (hk : ∀ (j b : Nat), bs[j]? = some b → ∃ fs re nx pv e, PageAt w b fs re nx pv ∧ fs[0]? = some e ∧ es[j]? = some e) (hlen : es.length = bs.length) (hb257 : bs.length ≤ 257)
    (ha : Asks d w (.slice A m p) es cs) (hp : Pos cs es.length i ok) :
    Calls Tryd.prog 70 #[.pointer (some ⟨t, 0, none⟩), .iface 126 (.pointer (some ⟨q, 0, none⟩)), .slice A m p] w (FindP i ok w) := by
  cases d with
  | false => exact find_root_false t q b0 bs es rest A m p cs i ok c fi la r ver w hq ht hk hlen hb257 ha hp
  | true => exact find_root_true t q b0 bs es rest A m p cs i ok c fi la r ver w hq ht hk hlen hb257 ha hp

end Go.Proofs.YtffgkocokkhahaaDoor

/- The index's tree in memory: a chain of pages, under a root where there are several. -/
namespace Go.Proofs.YtffgkocokkhahaaDoor
open Go.RowKit
variable {G : Value}

abbrev Pg := Nat × List XE
def ptr (b : Nat) : Value := .pointer (some ⟨b, 0, none⟩)
def hdp : List Pg → Value → Value
  | [], nx => nx
  | p :: _, _ => ptr p.1
def lastp : Value → List Pg → Value
  | pv, [] => pv
  | _, p :: r => lastp (ptr p.1) r
def Chain (w : World) : Value → List Pg → Value → Prop
  | _, [], _ => True
  | pv, p :: r, nx => (∃ rest, PageAt w p.1 p.2 rest (hdp r nx) pv) ∧ Chain w (ptr p.1) r nx

theorem hdp_append (A B : List Pg) (nx : Value) : hdp (A ++ B) nx = hdp A (hdp B nx) := by cases A <;> rfl
theorem lastp_append (A B : List Pg) (pv : Value) : lastp pv (A ++ B) = lastp (lastp pv A) B := by
  induction A generalizing pv with
  | nil => rfl
  | cons p A ih => exact ih _
theorem chain_append {w : World} (A B : List Pg) (pv nx : Value) : Chain w pv (A ++ B) nx ↔ Chain w pv A (hdp B nx) ∧ Chain w (lastp pv A) B nx := by
  induction A generalizing pv with
  | nil => simp [Chain, lastp]
  | cons p A ih =>
    simp only [List.cons_append, Chain, lastp, ih, hdp_append]
    exact ⟨fun ⟨h1, h2, h3⟩ => ⟨⟨h1, h2⟩, h3⟩, fun ⟨⟨h1, h2⟩, h3⟩ => ⟨h1, h2, h3⟩⟩
theorem chain_chg {S : Nat → Prop} {w w' : World} : ∀ {A : List Pg} {pv nx : Value}, Chain w pv A nx → Chg S w w' → (∀ p ∈ A, ¬ S p.1) → Chain w' pv A nx
  | [], _, _, _, _, _ => trivial
  | p :: r, _, _, ⟨⟨rest, h1⟩, h2⟩, hc, hn => ⟨⟨rest, h1.chg hc (hn p (by simp))⟩, chain_chg h2 hc (fun q hq => hn q (by simp [hq]))⟩
theorem chain_lt {w : World} : ∀ {A : List Pg} {pv nx : Value}, Chain w pv A nx → ∀ p ∈ A, p.1 < w.heap.size
  | q :: r, _, _, ⟨⟨_, h1⟩, h2⟩, p, hp => by
    rcases List.mem_cons.1 hp with rfl | hp
    · exact h1.lt
    · exact chain_lt h2 p hp
theorem chain_page {w : World} : ∀ {A : List Pg} {pv nx : Value}, Chain w pv A nx → ∀ p ∈ A, ∃ rest nx' pv', PageAt w p.1 p.2 rest nx' pv'
  | q :: r, _, _, ⟨⟨rest, h1⟩, h2⟩, p, hp => by
    rcases List.mem_cons.1 hp with rfl | hp
    · exact ⟨_, _, _, h1⟩
    · exact chain_page h2 p hp

def ents (P : List Pg) : List XE := P.flatMap (·.2)
theorem ents_append (A B : List Pg) : ents (A ++ B) = ents A ++ ents B := by simp [ents]
theorem ents_cons (p : Pg) (B : List Pg) : ents (p :: B) = p.2 ++ ents B := by simp [ents]

def Blocks (P : List Pg) : List Nat := P.map (·.1)

/-- Two kinds of blocks are two blocks. -/
theorem tag_ne {w : World} {a b : Nat} {c d : Array Value} {t u : TypeId} {f g : Nat × Nat} (h1 : w.heap[a]? = some (.cells c t f)) (h2 : w.heap[b]? = some (.cells d u g)) (hne : t ≠ u) : ¬ a = b := by
  rintro rfl
  rw [h1] at h2
  injection h2 with h2
  injection h2 with _ h2
  exact hne h2

/-- A tree with a root. -/
structure Rooted (G : Value) (w : World) (t x : Nat) (P : List Pg) (c : Int) : Prop where
  tree : ∃ ver, TreeW G w t c (hdp P (.pointer none)) (lastp (.pointer none) P) (.iface 126 (ptr x)) ver
  root : ∃ b0 bs xr, Blocks P = b0 :: bs ∧ RootAt w x b0 bs xr
  chain : Chain w (.pointer none) P (.pointer none)
  sizes : ∀ p ∈ P, 64 ≤ p.2.length ∧ p.2.length ≤ 128
  nodup : (Blocks P).Nodup
  two : 2 ≤ P.length

/-- A tree of one page. -/
structure Lone (G : Value) (w : World) (t b : Nat) (es : List XE) (c : Int) : Prop where
  tree : ∃ ver, TreeW G w t c (ptr b) (ptr b) (.iface 123 (ptr b)) ver
  page : ∃ rest, PageAt w b es rest (.pointer none) (.pointer none)
  size : 1 ≤ es.length ∧ es.length ≤ 128

/-- A tree and the blocks that it has. -/
inductive TreeAt (G : Value) (w : World) (t : Nat) : List XE → (Nat → Prop) → Prop where
  | none (h : ∃ ver, TreeW G w t 0 (.pointer none) (.pointer none) .nilIface ver) : TreeAt G w t [] (fun b => b = t)
  | lone {b : Nat} {es : List XE} (h : Lone G w t b es es.length) : TreeAt G w t es (fun k => k = t ∨ k = b)
  | many {x : Nat} {P : List Pg} (h : Rooted G w t x P (ents P).length) : TreeAt G w t (ents P) (fun k => (k = t ∨ k = x) ∨ k ∈ Blocks P)

theorem Rooted.pages {w : World} {t x : Nat} {P : List Pg} {c : Int} (h : Rooted G w t x P c) : P.length * 64 ≤ (ents P).length := by
  have hs := h.sizes
  clear h
  induction P with
  | nil => simp
  | cons p P ih =>
    rw [ents_cons, List.length_append, List.length_cons, Nat.succ_mul]
    have h1 := hs p (by simp)
    have h2 := ih (fun q hq => hs q (by simp [hq]))
    omega

theorem Lone.ne {w : World} {t b : Nat} {es : List XE} {c : Int} (h : Lone G w t b es c) : ¬ t = b := by
  obtain ⟨_, h1⟩ := h.tree
  obtain ⟨_, h2⟩ := h.page
  exact tag_ne h1 h2.heap (by decide)

end Go.Proofs.YtffgkocokkhahaaDoor

/- Walking the tree: (*xenumerator).next, prev. -/
namespace Go.Proofs.YtffgkocokkhahaaDoor
open Go.RowKit

/-- What goes through the tree. -/
def EnumAt (w : World) (b : Nat) (err : Value) (hit : Bool) (i : Int) (kv : Value) (q : Value) (t : Nat) (ver : Int) : Prop :=
  w.heap[b]? = some (.cells #[err, .bool hit, .int .i64 i, kv, q, ptr t, .int .i64 ver] 148 (0, 0))

/-- The end's own error. -/
structure HasEof (w : World) (E : Value) : Prop where
  lt : 0 < w.heap.size
  cell : w.cell? ⟨0, 0, none⟩ = some E
  form : ∃ a, E = .iface 246 (.pointer (some a))
theorem HasEof.below {w w' : World} {E : Value} (h : HasEof w E) (hb : Below w.heap.size w w') : HasEof w' E :=
  ⟨Nat.lt_of_lt_of_le h.lt hb.size, by rw [hb.cell (p := ⟨0, 0, none⟩) h.lt]; exact h.cell, h.form⟩
theorem HasEof.chg {S : Nat → Prop} {w w' : World} {E : Value} (h : HasEof w E) (hc : Chg S w w') (hn : ¬ S 0) : HasEof w' E :=
  ⟨Nat.lt_of_lt_of_le h.lt hc.size, by rw [World.cell?_of_block (w := w) (hc.block _ h.lt hn)]; exact h.cell, h.form⟩

set_option maxRecDepth 100000 in
set_option maxHeartbeats 1000000 in
/-- On within a page. -/
theorem next_in (b q i : Nat) (hit : Bool) (kv : Value) (t : Nat) (ver : Int) (es : List XE) (rest : List Value) (nx pv : Value) (w : World)
    (he : EnumAt w b .nilIface hit i kv (ptr q) t ver) (hq : PageAt w q es rest nx pv) (hi : i + 1 < es.length) :
    Calls Tryd.prog 113 #[.pointer (some ⟨b, 0, none⟩)] w fun y w' => y = .returned .nilIface ∧ EnumAt w' b .nilIface hit ((i + 1 : Nat) : Int) kv (ptr q) t ver ∧ Chg (fun k => k = b) w w' := by
  have hle := hq.le
  have c0 : w.cell? ⟨b, 0, none⟩ = some .nilIface := cell_of_heap he 0
  have c2 : w.cell? ⟨b, 2, none⟩ = some (.int .i64 i) := cell_of_heap he 2
  have c5 : w.cell? ⟨b, 4, none⟩ = some (.pointer (some ⟨q, 0, none⟩)) := cell_of_heap he 4
  have f2 : w.frozen? ⟨b, 2, none⟩ = false := free_of_heap he 2
  have cq : w.cell? ⟨q, 0, none⟩ = some (.int .i64 es.length) := by rw [hq.cell]; rfl
  have hlt : (i : Int) < ↑es.length - 1 := by omega
  have hw : IntKind.i64.wrap (↑es.length - 1) = (es.length : Int) - 1 := IntWalk.i64_in _ (by omega)
  have HE := Lib.hid he
  clear he hq
  go_enter Tryd.func113, Tryd.ntmps113
  go_wp2
  go_still_tail 13, (by kernel_rfl)
  change wpList _ _ _ _ _ w.drew
  go_wp2
  go_ret
  refine ⟨rfl, ?_, (Chg.setCell (Chg.refl (fun k => k = b) w) (p := ⟨b, 2, none⟩) (.inl rfl) _).drew⟩
  unfold EnumAt
  simp only [heap_drew, heap_setCell_at, show w.heap[b]? = _ from HE.out, Option.map_some, updObj_cells]
  rfl

set_option maxRecDepth 100000 in
set_option maxHeartbeats 1000000 in
/-- On to the next page. -/
theorem next_page (b q i q2 : Nat) (hit : Bool) (kv : Value) (t : Nat) (ver : Int) (es : List XE) (rest : List Value) (pv : Value) (w : World)
    (he : EnumAt w b .nilIface hit i kv (ptr q) t ver) (hq : PageAt w q es rest (ptr q2) pv) (hi : es.length ≤ i + 1) :
    Calls Tryd.prog 113 #[.pointer (some ⟨b, 0, none⟩)] w fun y w' => y = .returned .nilIface ∧ EnumAt w' b .nilIface hit ((0 : Nat) : Int) kv (ptr q2) t ver ∧ Chg (fun k => k = b) w w' := by
  have hle := hq.le
  have hroom := hq.room
  have c0 : w.cell? ⟨b, 0, none⟩ = some .nilIface := cell_of_heap he 0
  have c2 : w.cell? ⟨b, 2, none⟩ = some (.int .i64 i) := cell_of_heap he 2
  have c5 : w.cell? ⟨b, 4, none⟩ = some (.pointer (some ⟨q, 0, none⟩)) := cell_of_heap he 4
  have f2 : w.frozen? ⟨b, 2, none⟩ = false := free_of_heap he 2
  have f5 : w.frozen? ⟨b, 4, none⟩ = false := free_of_heap he 4
  have cq : w.cell? ⟨q, 0, none⟩ = some (.int .i64 es.length) := by rw [hq.cell]; rfl
  have cn : w.cell? ⟨q, 259, none⟩ = some (.pointer (some ⟨q2, 0, none⟩)) := by rw [hq.cell, pgL_tail XE.cells 2 XE.two es rest _ 259 0 (by omega)]; rfl
  have hlt : ((i : Int) < ↑es.length - 1) = False := by simp; omega
  have hw : IntKind.i64.wrap (↑es.length - 1) = (es.length : Int) - 1 := IntWalk.i64_in _ (by omega)
  have hbq : ¬ b = q := tag_ne he hq.heap (by decide)
  have hqb : ¬ q = b := fun h => hbq h.symm
  have HE := Lib.hid he
  clear he hq
  go_enter Tryd.func113, Tryd.ntmps113
  go_wp2
  go_still_tail 13, (by kernel_rfl)
  change wpList _ _ _ _ _ w.drew
  go_wp2
  go_ret
  refine ⟨rfl, ?_, (Chg.setCell (Chg.setCell (Chg.refl (fun k => k = b) w).drew (p := ⟨b, 4, none⟩) (.inl rfl) _) (p := ⟨b, 2, none⟩) (.inl rfl) _)⟩
  unfold EnumAt
  simp only [heap_drew, heap_setCell_at, show w.heap[b]? = _ from HE.out, Option.map_some, updObj_cells]
  rfl

set_option maxRecDepth 100000 in
set_option maxHeartbeats 1000000 in
/-- Behind the last page. -/
theorem next_end (b q i : Nat) (hit : Bool) (kv : Value) (t : Nat) (ver : Int) (es : List XE) (rest : List Value) (pv : Value) (E : Value) (w : World)
    (he : EnumAt w b .nilIface hit i kv (ptr q) t ver) (hq : PageAt w q es rest (.pointer none) pv) (hi : es.length ≤ i + 1) (hE : HasEof w E) (hbg : ¬ 0 = b) :
    Calls Tryd.prog 113 #[.pointer (some ⟨b, 0, none⟩)] w fun y w' => y = .returned E ∧ EnumAt w' b E hit ((0 : Nat) : Int) kv (.pointer none) t ver ∧ Chg (fun k => k = b) w w' := by
  have hle := hq.le
  have hroom := hq.room
  have c0 : w.cell? ⟨b, 0, none⟩ = some .nilIface := cell_of_heap he 0
  have c2 : w.cell? ⟨b, 2, none⟩ = some (.int .i64 i) := cell_of_heap he 2
  have c5 : w.cell? ⟨b, 4, none⟩ = some (.pointer (some ⟨q, 0, none⟩)) := cell_of_heap he 4
  have f0 : w.frozen? ⟨b, 0, none⟩ = false := free_of_heap he 0
  have f2 : w.frozen? ⟨b, 2, none⟩ = false := free_of_heap he 2
  have f5 : w.frozen? ⟨b, 4, none⟩ = false := free_of_heap he 4
  have cq : w.cell? ⟨q, 0, none⟩ = some (.int .i64 es.length) := by rw [hq.cell]; rfl
  have cn : w.cell? ⟨q, 259, none⟩ = some (.pointer none) := by rw [hq.cell, pgL_tail XE.cells 2 XE.two es rest _ 259 0 (by omega)]; rfl
  have hlt : ((i : Int) < ↑es.length - 1) = False := by simp; omega
  have hw : IntKind.i64.wrap (↑es.length - 1) = (es.length : Int) - 1 := IntWalk.i64_in _ (by omega)
  have hbq : ¬ b = q := tag_ne he hq.heap (by decide)
  have hqb : ¬ q = b := fun h => hbq h.symm
  have hbg' : ¬ b = 0 := fun h => hbg h.symm
  have HE := Lib.hid he
  obtain ⟨gl, gc, a, rfl⟩ := hE
  clear he hq
  go_enter Tryd.func113, Tryd.ntmps113
  go_wp2
  go_still_tail 13, (by kernel_rfl)
  change wpList _ _ _ _ _ w.drew
  go_wp2
  go_ret
  refine ⟨rfl, ?_, (Chg.setCell (Chg.setCell (Chg.setCell (Chg.refl (fun k => k = b) w).drew (p := ⟨b, 4, none⟩) (.inl rfl) _) (p := ⟨b, 2, none⟩) (.inl rfl) _) (p := ⟨b, 0, none⟩) (.inl rfl) _)⟩
  unfold EnumAt
  simp only [heap_drew, heap_setCell_at, show w.heap[b]? = _ from HE.out, Option.map_some, updObj_cells]
  rfl

set_option maxRecDepth 100000 in
set_option maxHeartbeats 1000000 in
/-- Back within a page. -/
theorem prev_in (b q i j : Nat) (hit : Bool) (kv : Value) (t : Nat) (ver : Int) (w : World)
    (he : EnumAt w b .nilIface hit i kv (ptr q) t ver) (hi : i = j + 1) (hb : i ≤ 129) :
    Calls Tryd.prog 114 #[.pointer (some ⟨b, 0, none⟩)] w fun y w' => y = .returned .nilIface ∧ EnumAt w' b .nilIface hit (j : Int) kv (ptr q) t ver ∧ Chg (fun k => k = b) w w' := by
  have c0 : w.cell? ⟨b, 0, none⟩ = some .nilIface := cell_of_heap he 0
  have c2 : w.cell? ⟨b, 2, none⟩ = some (.int .i64 i) := cell_of_heap he 2
  have c5 : w.cell? ⟨b, 4, none⟩ = some (.pointer (some ⟨q, 0, none⟩)) := cell_of_heap he 4
  have f2 : w.frozen? ⟨b, 2, none⟩ = false := free_of_heap he 2
  have hi0 : 0 < i := by omega
  have hj : (i : Int) - 1 = (j : Int) := by omega
  have HE := Lib.hid he
  clear he hi
  go_enter Tryd.func114, Tryd.ntmps114
  go_wp2
  go_ret
  refine ⟨rfl, ?_, Chg.setCell (Chg.refl (fun k => k = b) w) (p := ⟨b, 2, none⟩) (.inl rfl) _⟩
  unfold EnumAt
  simp only [heap_setCell_at, show w.heap[b]? = _ from HE.out, Option.map_some, updObj_cells]
  rfl

set_option maxRecDepth 100000 in
set_option maxHeartbeats 1000000 in
/-- Back to the page ahead. -/
theorem prev_page (b q q2 j : Nat) (hit : Bool) (kv : Value) (t : Nat) (ver : Int) (es es2 : List XE) (rest rest2 : List Value) (nx nx2 pv2 : Value) (w : World)
    (he : EnumAt w b .nilIface hit ((0 : Nat) : Int) kv (ptr q) t ver) (hq : PageAt w q es rest nx (ptr q2)) (hq2 : PageAt w q2 es2 rest2 nx2 pv2) (hj : es2.length = j + 1) :
    Calls Tryd.prog 114 #[.pointer (some ⟨b, 0, none⟩)] w fun y w' => y = .returned .nilIface ∧ EnumAt w' b .nilIface hit (j : Int) kv (ptr q2) t ver ∧ Chg (fun k => k = b) w w' := by
  have hle := hq2.le
  have hroom := hq.room
  have c0 : w.cell? ⟨b, 0, none⟩ = some .nilIface := cell_of_heap he 0
  have c2 : w.cell? ⟨b, 2, none⟩ = some (.int .i64 0) := cell_of_heap he 2
  have c5 : w.cell? ⟨b, 4, none⟩ = some (.pointer (some ⟨q, 0, none⟩)) := cell_of_heap he 4
  have f2 : w.frozen? ⟨b, 2, none⟩ = false := free_of_heap he 2
  have f5 : w.frozen? ⟨b, 4, none⟩ = false := free_of_heap he 4
  have cn : w.cell? ⟨q, 260, none⟩ = some (.pointer (some ⟨q2, 0, none⟩)) := by rw [hq.cell, pgL_tail XE.cells 2 XE.two es rest _ 260 1 (by omega)]; rfl
  have cq2 : w.cell? ⟨q2, 0, none⟩ = some (.int .i64 es2.length) := by rw [hq2.cell]; rfl
  have hbq : ¬ b = q := tag_ne he hq.heap (by decide)
  have hqb : ¬ q = b := fun h => hbq h.symm
  have hbq2 : ¬ b = q2 := tag_ne he hq2.heap (by decide)
  have hqb2 : ¬ q2 = b := fun h => hbq2 h.symm
  have hj2 : (es2.length : Int) - 1 = (j : Int) := by omega
  have HE := Lib.hid he
  clear he hq hq2 hj
  go_enter Tryd.func114, Tryd.ntmps114
  go_wp2
  go_ret
  refine ⟨rfl, ?_, Chg.setCell (Chg.setCell (Chg.refl (fun k => k = b) w) (p := ⟨b, 4, none⟩) (.inl rfl) _) (p := ⟨b, 2, none⟩) (.inl rfl) _⟩
  unfold EnumAt
  simp only [heap_setCell_at, show w.heap[b]? = _ from HE.out, Option.map_some, updObj_cells]
  rfl

set_option maxRecDepth 100000 in
set_option maxHeartbeats 1000000 in
/-- Ahead of the first page. -/
theorem prev_end (b q : Nat) (hit : Bool) (kv : Value) (t : Nat) (ver : Int) (es : List XE) (rest : List Value) (nx : Value) (E : Value) (w : World)
    (he : EnumAt w b .nilIface hit ((0 : Nat) : Int) kv (ptr q) t ver) (hq : PageAt w q es rest nx (.pointer none)) (hE : HasEof w E) (hbg : ¬ 0 = b) :
    Calls Tryd.prog 114 #[.pointer (some ⟨b, 0, none⟩)] w fun y w' => y = .returned E ∧ EnumAt w' b E hit ((0 : Nat) : Int) kv (.pointer none) t ver ∧ Chg (fun k => k = b) w w' := by
  have hroom := hq.room
  have c0 : w.cell? ⟨b, 0, none⟩ = some .nilIface := cell_of_heap he 0
  have c2 : w.cell? ⟨b, 2, none⟩ = some (.int .i64 0) := cell_of_heap he 2
  have c5 : w.cell? ⟨b, 4, none⟩ = some (.pointer (some ⟨q, 0, none⟩)) := cell_of_heap he 4
  have f0 : w.frozen? ⟨b, 0, none⟩ = false := free_of_heap he 0
  have f5 : w.frozen? ⟨b, 4, none⟩ = false := free_of_heap he 4
  have cn : w.cell? ⟨q, 260, none⟩ = some (.pointer none) := by rw [hq.cell, pgL_tail XE.cells 2 XE.two es rest _ 260 1 (by omega)]; rfl
  have hbq : ¬ b = q := tag_ne he hq.heap (by decide)
  have hqb : ¬ q = b := fun h => hbq h.symm
  have hbg' : ¬ b = 0 := fun h => hbg h.symm
  have HE := Lib.hid he
  obtain ⟨gl, gc, a, rfl⟩ := hE
  clear he hq
  go_enter Tryd.func114, Tryd.ntmps114
  go_wp2
  go_ret
  refine ⟨rfl, ?_, Chg.setCell (Chg.setCell (Chg.refl (fun k => k = b) w) (p := ⟨b, 4, none⟩) (.inl rfl) _) (p := ⟨b, 0, none⟩) (.inl rfl) _⟩
  unfold EnumAt
  simp only [heap_setCell_at, show w.heap[b]? = _ from HE.out, Option.map_some, updObj_cells]
  rfl

end Go.Proofs.YtffgkocokkhahaaDoor
