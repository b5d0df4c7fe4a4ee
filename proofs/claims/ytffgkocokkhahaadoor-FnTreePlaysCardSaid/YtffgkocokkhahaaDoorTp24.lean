/-
  (*tree).Get, whatever the tree. || (*tree).Seek, whatever the tree. || (*tree).First, Last, Len, SeekFirst, SeekLast. || The two orders as the program has them: collate, collateDesc, impl.CollateRows. || A tree and the data of its keys and values: Set, Get, Delete, Clear, Len.
-/
import Derived.Test.YtffgkocokkhahaaDoorTp21
import Derived.Test.YtffgkocokkhahaaDoorTp18
import Derived.Test.YtffgkocokkhahaaDoorTp15
import Derived.Test.YtffgkocokkhahaaDoorTp12
import Derived.Test.YtffgkocokkhahaaDoorTp11
import Derived.Test.YtffgkocokkhahaaDoorTp23

/- (*tree).Get, whatever the tree. -/
namespace Go.Proofs.YtffgkocokkhahaaDoor
open Go.RowKit
variable {dsc : Bool} {G : Value}

def GetP (v : Value) (ok : Bool) (w : World) (y : Ending) (w' : World) : Prop := y = .returned (.tuple #[v, .bool ok]) ∧ Below w.heap.size w w'

set_option maxRecDepth 100000 in
set_option maxHeartbeats 1000000 in
theorem get_none (t : Nat) (A : Option Addr) (m p : Nat) (ver : Int) (w : World) (ht : TreeW G w t 0 (.pointer none) (.pointer none) .nilIface ver) :
    Calls Tryd.prog 38 #[.pointer (some ⟨t, 0, none⟩), .slice A m p] w (GetP (.slice none 0 0) false w) := by
  have ct4 : w.cell? ⟨t, 4, none⟩ = some .nilIface := cell_of_heap ht 4
  have lt := lt_of_heap ht
  clear ht
  go_enter Tryd.func38, Tryd.ntmps38
  go_wp2
  go_ret2
  exact ⟨rfl, Below.refl _ _⟩

set_option maxRecDepth 100000 in
set_option maxHeartbeats 1000000 in
theorem get_lone_miss (t b i : Nat) (es : List XE) (A : Option Addr) (m p : Nat) (cs : Nat → Int) (w : World) (hL : Lone (cmpV dsc) w t b es es.length) (ha : Asks dsc w (.slice A m p) es cs) (hp : Pos cs es.length i false) :
    Calls Tryd.prog 38 #[.pointer (some ⟨t, 0, none⟩), .slice A m p] w (GetP (.slice none 0 0) false w) := by
  have HF := find_lone hL ha hp
  obtain ⟨⟨ver, ht⟩, ⟨rest, hq⟩, _⟩ := hL
  have ct4 : w.cell? ⟨t, 4, none⟩ = some (.iface 123 (.pointer (some ⟨b, 0, none⟩))) := cell_of_heap ht 4
  have lt := lt_of_heap ht
  clear hq ht ha hp
  go_enter Tryd.func38, Tryd.ntmps38
  go_wp2_with fail
  refine wp_loop_rounds 1 ?_
  rw [rounds_succ]
  go_wp2_with (go_at_call 70; refine (HF.out _ (Below.refl _ _)).mono ?_; rintro y w1 ⟨rfl, hb1⟩)
  go_ret2
  exact ⟨rfl, hb1⟩

set_option maxRecDepth 100000 in
set_option maxHeartbeats 1000000 in
theorem get_lone_hit (t b i : Nat) (es : List XE) (e : XE) (he : es[i]? = some e) (A : Option Addr) (m p : Nat) (cs : Nat → Int) (w : World) (hL : Lone (cmpV dsc) w t b es es.length) (ha : Asks dsc w (.slice A m p) es cs) (hp : Pos cs es.length i true) :
    Calls Tryd.prog 38 #[.pointer (some ⟨t, 0, none⟩), .slice A m p] w (GetP (.slice e.B e.n e.q) true w) := by
  have HF := find_lone hL ha hp
  obtain ⟨⟨ver, ht⟩, ⟨rest, hq⟩, hsz⟩ := hL
  have ct4 : w.cell? ⟨t, 4, none⟩ = some (.iface 123 (.pointer (some ⟨b, 0, none⟩))) := cell_of_heap ht 4
  have lt := lt_of_heap ht
  have lb := hq.lt
  have hi : i < es.length := (List.getElem?_eq_some_iff.1 he).1
  have hi1 : (i : Int) < 129 := by omega
  have hi2 : (0 : Int) ≤ i := by omega
  have cv : w.cell? ⟨b, 1 + i * 2 + 1, none⟩ = some (.slice e.B e.n e.q) := (hq.cell _).trans (pgL_at XE.cells 2 XE.two es rest _ i 1 e _ he (by omega) rfl)
  clear hq ht ha hp
  go_enter Tryd.func38, Tryd.ntmps38
  go_wp2_with fail
  refine wp_loop_rounds 1 ?_
  rw [rounds_succ]
  go_wp2_with (go_at_call 70; refine (HF.out _ (Below.refl _ _)).mono ?_; rintro y w1 ⟨rfl, hb1⟩; have dv := (hb1.cell (p := ⟨b, 1 + i * 2 + 1, none⟩) lb).trans cv; have HB1 := Lib.hid hb1; clear hb1)
  go_ret2
  exact ⟨rfl, HB1.out⟩

section
variable {t x q i g : Nat} {A B : List Pg} {es : List XE} {kA : Option Addr} {m p : Nat} {cs : Nat → Int} {w : World}

set_option maxRecDepth 100000 in
set_option maxHeartbeats 1600000 in
theorem get_many_leaf (ok : Bool) (v : Value) (hR : Rooted (cmpV dsc) w t x (A ++ (q, es) :: B) (ents (A ++ (q, es) :: B)).length) (hlen : (A ++ (q, es) :: B).length ≤ 200)
    (ha : Asks dsc w (.slice kA m p) (ents (A ++ (q, es) :: B)) cs)
    (hpr : Pos (fun t => cs (ents ((A ++ (q, es) :: B).take (t + 1))).length) (heads (A ++ (q, es) :: B).tail).length A.length false) (hpl : Pos (fun r => cs ((ents A).length + r)) es.length i ok)
    (hv : (ok = false ∧ v = .slice none 0 0) ∨ (ok = true ∧ ∃ e, es[i]? = some e ∧ v = .slice e.B e.n e.q)) :
    Calls Tryd.prog 38 #[.pointer (some ⟨t, 0, none⟩), .slice kA m p] w (GetP v ok w) := by
  have HFX := find_top hR hlen ha hpr
  have HFL := find_page hR ha hpl
  have hsz : es.length ≤ 128 := (hR.sizes (q, es) (by simp)).2
  obtain ⟨ver, b0, bs, xr, sq, ht, hx, _, hq, _, _, _, hcx, _⟩ := hR.at_
  have ct4 : w.cell? ⟨t, 4, none⟩ = some (.iface 126 (.pointer (some ⟨x, 0, none⟩))) := cell_of_heap ht 4
  have lt := lt_of_heap ht
  have lx := hx.lt
  have lq := hq.lt
  simp only [List.length_append, List.length_cons] at hlen
  have HQ := Lib.hid hq
  obtain ⟨k, hk⟩ : ∃ k, k = A.length := ⟨_, rfl⟩
  rw [← hk] at hcx HFX
  have hk1 : (k : Int) < 258 := by omega
  have hk2 : (0 : Int) ≤ k := by omega
  have hile := hpl.le
  clear hR hq ht ha hpr hpl hx hk
  rcases hv with ⟨rfl, rfl⟩ | ⟨rfl, e, he, rfl⟩
  · go_enter Tryd.func38, Tryd.ntmps38
    go_wp2_with fail
    refine wp_loop_rounds 2 ?_
    rw [rounds_succ]
    go_wp2_with (go_at_call 70; refine (HFX.out _ (Below.refl _ _)).mono ?_; rintro y w1 ⟨rfl, hb1⟩; have HB1 := Lib.hid hb1; have dxk := (HB1.out.cell (p := ⟨x, 1 + k * 2, none⟩) lx).trans hcx; clear hb1)
    rw [rounds_succ]
    go_wp2_with (go_at_call 70; refine (HFL.out _ HB1.out).mono ?_; rintro y w2 ⟨rfl, hb2⟩)
    go_ret2
    exact ⟨rfl, up_below' HB1.out hb2⟩
  · have cv : w.cell? ⟨q, 1 + i * 2 + 1, none⟩ = some (.slice e.B e.n e.q) := (HQ.out.cell _).trans (pgL_at XE.cells 2 XE.two es sq _ i 1 e _ he (by omega) rfl)
    have hil := (List.getElem?_eq_some_iff.1 he).1
    have hi1 : (i : Int) < 129 := by omega
    have hi2 : (0 : Int) ≤ i := by omega
    clear he
    go_enter Tryd.func38, Tryd.ntmps38
    go_wp2_with fail
    refine wp_loop_rounds 2 ?_
    rw [rounds_succ]
    go_wp2_with (go_at_call 70; refine (HFX.out _ (Below.refl _ _)).mono ?_; rintro y w1 ⟨rfl, hb1⟩; have HB1 := Lib.hid hb1; have dxk := (HB1.out.cell (p := ⟨x, 1 + k * 2, none⟩) lx).trans hcx; clear hb1)
    rw [rounds_succ]
    go_wp2_with (go_at_call 70; refine (HFL.out _ HB1.out).mono ?_; rintro y w2 ⟨rfl, hb2⟩; have HB2 := Lib.hid (up_below' HB1.out hb2); have dv := (HB2.out.cell (p := ⟨q, 1 + i * 2 + 1, none⟩) lq).trans cv; clear hb2)
    go_ret2
    exact ⟨rfl, HB2.out⟩

set_option maxRecDepth 100000 in
set_option maxHeartbeats 1600000 in
theorem get_many_root {r : Nat} {e : XE} (hR : Rooted (cmpV dsc) w t x (A ++ (q, es) :: B) (ents (A ++ (q, es) :: B)).length) (hlen : (A ++ (q, es) :: B).length ≤ 200)
    (ha : Asks dsc w (.slice kA m p) (ents (A ++ (q, es) :: B)) cs) (hr : A.length = r + 1) (he : es[0]? = some e) (hp : Pos cs (ents (A ++ (q, es) :: B)).length (ents A).length true) :
    Calls Tryd.prog 38 #[.pointer (some ⟨t, 0, none⟩), .slice kA m p] w (GetP (.slice e.B e.n e.q) true w) := by
  have HFX := find_top hR hlen ha (root_hit rfl hr rfl (hR.one (q, es) (by simp)) hR.one hp)
  obtain ⟨ver, b0, bs, xr, sq, ht, hx, _, hq, hbq, _, _, _, _⟩ := hR.at_
  have hbq2 : bs[r]? = some q := by rw [hr] at hbq; simpa using hbq
  have hcx : w.cell? ⟨x, 1 + r * 2 + 1, none⟩ = some (.pointer (some ⟨q, 0, none⟩)) := hx.sep hbq2
  have cv : w.cell? ⟨q, 2, none⟩ = some (.slice e.B e.n e.q) := (hq.cell _).trans (pgL_at XE.cells 2 XE.two es sq _ 0 1 e _ he (by omega) rfl)
  have ct4 : w.cell? ⟨t, 4, none⟩ = some (.iface 126 (.pointer (some ⟨x, 0, none⟩))) := cell_of_heap ht 4
  have lt := lt_of_heap ht
  have lx := hx.lt
  have lq := hq.lt
  simp only [List.length_append, List.length_cons] at hlen
  have hk1 : (r : Int) < 257 := by omega
  have hk2 : (0 : Int) ≤ r := by omega
  clear hR hq ht ha hx hbq hbq2 hr hp he
  go_enter Tryd.func38, Tryd.ntmps38
  go_wp2_with fail
  refine wp_loop_rounds 1 ?_
  rw [rounds_succ]
  go_wp2_with (go_at_call 70; refine (HFX.out _ (Below.refl _ _)).mono ?_; rintro y w1 ⟨rfl, hb1⟩; have HB1 := Lib.hid hb1; have dxk := (HB1.out.cell (p := ⟨x, 1 + r * 2 + 1, none⟩) lx).trans hcx; have dv := (HB1.out.cell (p := ⟨q, 2, none⟩) lq).trans cv; clear hb1)
  go_ret2
  exact ⟨rfl, HB1.out⟩
end

/-- Get, whatever the tree: v is what the key's entry has, or nothing. -/
theorem get_any (t : Nat) (L : List XE) (S : Nat → Prop) (kA : Option Addr) (m p : Nat) (g : Nat) (ok : Bool) (v : Value) (cs : Nat → Int) (w : World) (hT : TreeAt (cmpV dsc) w t L S) (hlen : L.length ≤ 12800)
    (ha : Asks dsc w (.slice kA m p) L cs) (hp : Pos cs L.length g ok) (hv : (ok = false ∧ v = .slice none 0 0) ∨ (ok = true ∧ ∃ e, L[g]? = some e ∧ v = .slice e.B e.n e.q)) :
    Calls Tryd.prog 38 #[.pointer (some ⟨t, 0, none⟩), .slice kA m p] w (GetP v ok w) := by
  cases hT with
  | none h =>
    obtain ⟨ver, hT⟩ := h
    rcases hv with ⟨rfl, rfl⟩ | ⟨rfl, e, he, rfl⟩
    · exact get_none t kA m p ver w hT
    · simp at he
  | lone hT =>
    rcases hv with ⟨rfl, rfl⟩ | ⟨rfl, e, he, rfl⟩
    · exact get_lone_miss t _ g L kA m p cs w hT ha hp
    · exact get_lone_hit t _ g L e he kA m p cs w hT ha hp
  | many hT =>
    rename_i x P
    have hP : P ≠ [] := by rintro rfl; have := hT.two; simp at this
    have hl := hT.pages
    have hn := hT.one
    rcases hv with ⟨rfl, rfl⟩ | ⟨rfl, e, he, rfl⟩
    · obtain ⟨A, q, es, B, i, rfl, hg, hi, hi1⟩ := place P g hP hp.le
      exact get_many_leaf false _ hT (by omega) ha (root_pos rfl hg hi hi1 hn hp) (page_pos hg hi hp) (.inl ⟨rfl, rfl⟩)
    · obtain ⟨A, q, es, B, i, rfl, hg, hi, h1 | ⟨rfl, r, hr⟩⟩ := place_hit hn hP (hp.hit rfl).1
      · exact get_many_leaf true _ hT (by omega) ha (root_in rfl hg hi h1 hn hp) (page_hit hg hi hp) (.inr ⟨rfl, e, ents_get hg hi he, rfl⟩)
      · have he0 := ents_get hg hi he
        rw [hg, Nat.add_zero] at hp
        exact get_many_root hT (by omega) ha hr he0 hp

end Go.Proofs.YtffgkocokkhahaaDoor

/- (*tree).Seek, whatever the tree. -/
namespace Go.Proofs.YtffgkocokkhahaaDoor
open Go.RowKit
variable {dsc : Bool} {G : Value}

/-- A new enumerator. -/
def SeekP (ok : Bool) (i : Int) (u q : Value) (t : Nat) (ver : Int) (w : World) (y : Ending) (w' : World) : Prop :=
  ∃ b, y = .returned (.tuple #[.pointer (some ⟨b, 0, none⟩), .bool ok]) ∧ EnumAt w' b .nilIface ok i u q t ver ∧ w.heap.size ≤ b ∧ Below w.heap.size w w'

set_option maxRecDepth 100000 in
set_option maxHeartbeats 1000000 in
theorem seek_none (t : Nat) (A : Option Addr) (m p : Nat) (ver : Int) (w : World) (ht : TreeW G w t 0 (.pointer none) (.pointer none) .nilIface ver) :
    Calls Tryd.prog 48 #[.pointer (some ⟨t, 0, none⟩), .slice A m p] w (SeekP false 0 (.slice A m p) (.pointer none) t ver w) := by
  have ct4 : w.cell? ⟨t, 4, none⟩ = some .nilIface := cell_of_heap ht 4
  have ct5 : w.cell? ⟨t, 5, none⟩ = some (.int .i64 ver) := cell_of_heap ht 5
  have lt := lt_of_heap ht
  clear ht
  go_enter Tryd.func48, Tryd.ntmps48
  go_wp2
  go_ret2
  exact ⟨w.heap.size, rfl, heap_new w _, Nat.le_refl _, (Below.refl _ _).alloc (Nat.le_refl _) _⟩

set_option maxRecDepth 100000 in
set_option maxHeartbeats 1000000 in
theorem seek_lone (t b i : Nat) (ok : Bool) (es : List XE) (A : Option Addr) (m p : Nat) (cs : Nat → Int) (w : World) {fi la : Value} {ver : Int} (hL : Lone (cmpV dsc) w t b es es.length) (ht : TreeW (cmpV dsc) w t es.length fi la (.iface 123 (ptr b)) ver) (ha : Asks dsc w (.slice A m p) es cs) (hp : Pos cs es.length i ok) :
    Calls Tryd.prog 48 #[.pointer (some ⟨t, 0, none⟩), .slice A m p] w (SeekP ok i (.slice A m p) (ptr b) t ver w) := by
  have HF := find_lone hL ha hp
  have ct4 : w.cell? ⟨t, 4, none⟩ = some (.iface 123 (.pointer (some ⟨b, 0, none⟩))) := cell_of_heap ht 4
  have ct5 : w.cell? ⟨t, 5, none⟩ = some (.int .i64 ver) := cell_of_heap ht 5
  have lt := lt_of_heap ht
  clear hL ht ha hp
  cases ok
  all_goals
    go_enter Tryd.func48, Tryd.ntmps48
    go_wp2_with fail
    refine wp_loop_rounds 1 ?_
    rw [rounds_succ]
    go_wp2_with (go_at_call 70; refine (HF.out _ (Below.refl _ _)).mono ?_; rintro y w1 ⟨rfl, hb1⟩; have dt5 := (hb1.cell (p := ⟨t, 5, none⟩) lt).trans ct5; have HB1 := Lib.hid hb1; clear hb1)
    go_ret2
    exact ⟨w1.heap.size, rfl, heap_new w1 _, HB1.out.size, HB1.out.alloc HB1.out.size _⟩

section
variable {t x q i g : Nat} {A B : List Pg} {es : List XE} {kA : Option Addr} {m p : Nat} {cs : Nat → Int} {w : World}

set_option maxRecDepth 100000 in
set_option maxHeartbeats 1600000 in
theorem seek_many_leaf (ok : Bool) {fi la : Value} {ver : Int} (hR : Rooted (cmpV dsc) w t x (A ++ (q, es) :: B) (ents (A ++ (q, es) :: B)).length) (hlen : (A ++ (q, es) :: B).length ≤ 200)
    (ht : TreeW (cmpV dsc) w t (ents (A ++ (q, es) :: B)).length fi la (.iface 126 (ptr x)) ver) (ha : Asks dsc w (.slice kA m p) (ents (A ++ (q, es) :: B)) cs)
    (hpr : Pos (fun t => cs (ents ((A ++ (q, es) :: B).take (t + 1))).length) (heads (A ++ (q, es) :: B).tail).length A.length false) (hpl : Pos (fun r => cs ((ents A).length + r)) es.length i ok) :
    Calls Tryd.prog 48 #[.pointer (some ⟨t, 0, none⟩), .slice kA m p] w (SeekP ok i (.slice kA m p) (ptr q) t ver w) := by
  have HFX := find_top hR hlen ha hpr
  have HFL := find_page hR ha hpl
  obtain ⟨_, b0, bs, xr, sq, _, hx, _, hq, _, _, _, hcx, _⟩ := hR.at_
  have ct4 : w.cell? ⟨t, 4, none⟩ = some (.iface 126 (.pointer (some ⟨x, 0, none⟩))) := cell_of_heap ht 4
  have ct5 : w.cell? ⟨t, 5, none⟩ = some (.int .i64 ver) := cell_of_heap ht 5
  have lt := lt_of_heap ht
  have lx := hx.lt
  simp only [List.length_append, List.length_cons] at hlen
  obtain ⟨k, hk⟩ : ∃ k, k = A.length := ⟨_, rfl⟩
  rw [← hk] at hcx HFX
  have hk1 : (k : Int) < 258 := by omega
  have hk2 : (0 : Int) ≤ k := by omega
  clear hR hq ht ha hpr hpl hx hk
  cases ok
  all_goals
    go_enter Tryd.func48, Tryd.ntmps48
    go_wp2_with fail
    refine wp_loop_rounds 2 ?_
    rw [rounds_succ]
    go_wp2_with (go_at_call 70; refine (HFX.out _ (Below.refl _ _)).mono ?_; rintro y w1 ⟨rfl, hb1⟩; have HB1 := Lib.hid hb1; have dxk := (HB1.out.cell (p := ⟨x, 1 + k * 2, none⟩) lx).trans hcx; clear hb1)
    rw [rounds_succ]
    go_wp2_with (go_at_call 70; refine (HFL.out _ HB1.out).mono ?_; rintro y w2 ⟨rfl, hb2⟩; have HB2 := Lib.hid (up_below' HB1.out hb2); have dt5 := (HB2.out.cell (p := ⟨t, 5, none⟩) lt).trans ct5; clear hb2)
    go_ret2
    exact ⟨w2.heap.size, rfl, heap_new w2 _, HB2.out.size, HB2.out.alloc HB2.out.size _⟩

set_option maxRecDepth 100000 in
set_option maxHeartbeats 1600000 in
theorem seek_many_root {r : Nat} {fi la : Value} {ver : Int} (hR : Rooted (cmpV dsc) w t x (A ++ (q, es) :: B) (ents (A ++ (q, es) :: B)).length) (hlen : (A ++ (q, es) :: B).length ≤ 200)
    (ht : TreeW (cmpV dsc) w t (ents (A ++ (q, es) :: B)).length fi la (.iface 126 (ptr x)) ver) (ha : Asks dsc w (.slice kA m p) (ents (A ++ (q, es) :: B)) cs) (hr : A.length = r + 1) (hp : Pos cs (ents (A ++ (q, es) :: B)).length (ents A).length true) :
    Calls Tryd.prog 48 #[.pointer (some ⟨t, 0, none⟩), .slice kA m p] w (SeekP true 0 (.slice kA m p) (ptr q) t ver w) := by
  have HFX := find_top hR hlen ha (root_hit rfl hr rfl (hR.one (q, es) (by simp)) hR.one hp)
  obtain ⟨_, b0, bs, xr, sq, _, hx, _, hq, hbq, _, _, _, _⟩ := hR.at_
  have hbq2 : bs[r]? = some q := by rw [hr] at hbq; simpa using hbq
  have hcx : w.cell? ⟨x, 1 + r * 2 + 1, none⟩ = some (.pointer (some ⟨q, 0, none⟩)) := hx.sep hbq2
  have ct4 : w.cell? ⟨t, 4, none⟩ = some (.iface 126 (.pointer (some ⟨x, 0, none⟩))) := cell_of_heap ht 4
  have ct5 : w.cell? ⟨t, 5, none⟩ = some (.int .i64 ver) := cell_of_heap ht 5
  have lt := lt_of_heap ht
  have lx := hx.lt
  simp only [List.length_append, List.length_cons] at hlen
  have hk1 : (r : Int) < 258 := by omega
  have hk2 : (0 : Int) ≤ r := by omega
  clear hR hq ht ha hx hbq hbq2 hr hp
  go_enter Tryd.func48, Tryd.ntmps48
  go_wp2_with fail
  refine wp_loop_rounds 1 ?_
  rw [rounds_succ]
  go_wp2_with (go_at_call 70; refine (HFX.out _ (Below.refl _ _)).mono ?_; rintro y w1 ⟨rfl, hb1⟩; have HB1 := Lib.hid hb1; have dxk := (HB1.out.cell (p := ⟨x, 1 + r * 2 + 1, none⟩) lx).trans hcx; have dt5 := (HB1.out.cell (p := ⟨t, 5, none⟩) lt).trans ct5; clear hb1)
  go_region
  go_wp2
  go_ret2
  exact ⟨w1.heap.size, rfl, heap_new w1 _, HB1.out.size, (HB1.out.alloc HB1.out.size _).drew⟩
end

theorem tree_pages {w : World} {t : Nat} {L : List XE} {S : Nat → Prop} (h : TreeAt G w t L S) :
    ∃ P r ver, ents P = L ∧ Chain w (.pointer none) P (.pointer none) ∧ (∀ p ∈ P, 1 ≤ p.2.length) ∧ TreeW G w t L.length (hdp P (.pointer none)) (lastp (.pointer none) P) r ver ∧ (∀ p ∈ P, S p.1) ∧ S t := by
  cases h with
  | none h => obtain ⟨ver, h⟩ := h; exact ⟨[], _, ver, rfl, trivial, fun p hp => (by cases hp), h, fun p hp => (by cases hp), rfl⟩
  | lone h =>
    rename_i b
    obtain ⟨⟨ver, ht⟩, ⟨rest, hq⟩, hs⟩ := h
    exact ⟨[(b, L)], _, ver, by simp [ents], ⟨⟨rest, hq⟩, trivial⟩, fun p hp => by simp at hp; subst hp; exact hs.1, ht, fun p hp => by simp at hp; subst hp; exact .inr rfl, .inl rfl⟩
  | many h =>
    rename_i x P
    obtain ⟨ver, ht⟩ := h.tree
    exact ⟨P, _, ver, rfl, h.chain, h.one, ht, fun p hp => .inr (mem_blocks hp), .inl (.inl rfl)⟩

/-- Seek, whatever the tree: at the key's place. -/
def SeekQ (G : Value) (t : Nat) (L : List XE) (S : Nat → Prop) (E : Value) (g : Nat) (ok : Bool) (w : World) (y : Ending) (w' : World) : Prop :=
  ∃ b P r ver, y = .returned (.tuple #[.pointer (some ⟨b, 0, none⟩), .bool ok]) ∧ w.heap.size ≤ b ∧ Below w.heap.size w w' ∧ ents P = L ∧ Chain w (.pointer none) P (.pointer none) ∧ (∀ p ∈ P, 1 ≤ p.2.length) ∧
    TreeW G w t L.length (hdp P (.pointer none)) (lastp (.pointer none) P) r ver ∧ (∀ p ∈ P, S p.1) ∧ S t ∧ AtN P w' b t ver E g ∧ AtP P w' b t ver E (g + 1)

theorem seek_any (t : Nat) (L : List XE) (S : Nat → Prop) (E : Value) (kA : Option Addr) (m p : Nat) (g : Nat) (ok : Bool) (cs : Nat → Int) (w : World) (hT : TreeAt (cmpV dsc) w t L S) (hlen : L.length ≤ 12800)
    (ha : Asks dsc w (.slice kA m p) L cs) (hp : Pos cs L.length g ok) :
    Calls Tryd.prog 48 #[.pointer (some ⟨t, 0, none⟩), .slice kA m p] w (SeekQ (cmpV dsc) t L S E g ok w) := by
  cases hT with
  | none h =>
    obtain ⟨ver, hT⟩ := h
    have hg : g = 0 := by have := hp.le; simpa using this
    have hok : ok = false := by
      cases ok with
      | false => rfl
      | true => have := (hp.hit rfl).1; simp at this
    subst hg hok
    refine (seek_none t kA m p ver w hT).mono ?_
    rintro y w' ⟨b, rfl, he, hlo, hb⟩
    exact ⟨b, [], _, ver, rfl, hlo, hb, rfl, trivial, fun p hp => (by cases hp), hT, fun p hp => (by cases hp), rfl, .void rfl he, .void rfl he⟩
  | lone hT =>
    rename_i b0
    have h0 := hT
    obtain ⟨⟨ver, ht⟩, ⟨rest, hq⟩, hs⟩ := h0
    refine (seek_lone t b0 g ok L kA m p cs w hT ht ha hp).mono ?_
    rintro y w' ⟨b, rfl, he, hlo, hb⟩
    have e0 : g = (ents ([] : List Pg)).length + g := by simp [ents]
    refine ⟨b, [(b0, L)], _, ver, rfl, hlo, hb, by simp [ents], ⟨⟨rest, hq⟩, trivial⟩, fun p hp => by simp at hp; subst hp; exact hs.1, ht, fun p hp => by simp at hp; subst hp; exact .inr rfl, .inl rfl, ?_, ?_⟩
    · rw [e0]
      exact .at_ (A := []) (B := []) (q := b0) (es := L) rfl hp.le he
    · rw [e0]
      exact .at_ (A := []) (B := []) (q := b0) (es := L) rfl hp.le he
  | many hT =>
    rename_i x P
    have hP : P ≠ [] := by rintro rfl; have := hT.two; simp at this
    have hl := hT.pages
    have hn := hT.one
    obtain ⟨ver, ht⟩ := hT.tree
    have fin : ∀ (A : List Pg) (q : Nat) (es : List XE) (B : List Pg) (i : Nat), P = A ++ (q, es) :: B → g = (ents A).length + i → i ≤ es.length → ∀ y w', SeekP ok i (.slice kA m p) (ptr q) t ver w y w' → SeekQ (cmpV dsc) t (ents P) (fun k => (k = t ∨ k = x) ∨ k ∈ Blocks P) E g ok w y w' := by
      rintro A q es B i hPA hg hi y w' ⟨b, rfl, he, hlo, hb⟩
      refine ⟨b, P, _, ver, rfl, hlo, hb, rfl, hT.chain, hn, ht, fun p hp => .inr (mem_blocks hp), .inl (.inl rfl), ?_, ?_⟩
      · rw [hg]
        exact .at_ hPA hi he
      · rw [hg]
        exact .at_ hPA hi he
    cases ok with
    | false =>
      obtain ⟨A, q, es, B, i, rfl, hg, hi, hi1⟩ := place P g hP hp.le
      exact (seek_many_leaf false hT (by omega) ht ha (root_pos rfl hg hi hi1 hn hp) (page_pos hg hi hp)).mono (fin A q es B i rfl hg hi)
    | true =>
      obtain ⟨A, q, es, B, i, rfl, hg, hi, h1 | ⟨rfl, r, hr⟩⟩ := place_hit hn hP (hp.hit rfl).1
      · exact (seek_many_leaf true hT (by omega) ht ha (root_in rfl hg hi h1 hn hp) (page_hit hg hi hp)).mono (fin A q es B i rfl hg (by omega))
      · have hp2 := hp
        rw [hg, Nat.add_zero] at hp2
        exact (seek_many_root hT (by omega) ht ha hr hp2).mono (fin A q es B 0 rfl hg (by omega))

end Go.Proofs.YtffgkocokkhahaaDoor

/- (*tree).First, Last, Len, SeekFirst, SeekLast. -/
namespace Go.Proofs.YtffgkocokkhahaaDoor
open Go.RowKit
variable {dsc : Bool} {G : Value}

set_option maxRecDepth 100000 in
set_option maxHeartbeats 1000000 in
theorem seekFirst_some {q t : Nat} {es : List XE} {rest : List Value} {nx pv : Value} {e : XE} {c : Int} {la r : Value} {ver : Int} {w : World} (hq : PageAt w q es rest nx pv) (he : es[0]? = some e) (ht : TreeW G w t c (ptr q) la r ver) :
    Calls Tryd.prog 45 #[.pointer (some ⟨t, 0, none⟩)] w fun y w' => ∃ b, y = .returned (.tuple #[.pointer (some ⟨b, 0, none⟩), .nilIface]) ∧ EnumAt w' b .nilIface true 0 (.slice e.A e.m e.p) (ptr q) t ver ∧ w.heap.size ≤ b ∧ Below w.heap.size w w' := by
  have c2 : w.cell? ⟨t, 2, none⟩ = some (.pointer (some ⟨q, 0, none⟩)) := cell_of_heap ht 2
  have c5 : w.cell? ⟨t, 5, none⟩ = some (.int .i64 ver) := cell_of_heap ht 5
  have e0 : w.cell? ⟨q, 1, none⟩ = some (.slice e.A e.m e.p) := (hq.cell _).trans (by have := pgL_at XE.cells 2 XE.two es rest [nx, pv] 0 0 e _ he (by omega) rfl; exact this)
  clear hq he ht
  go_enter Tryd.func45, Tryd.ntmps45
  go_wp2
  go_region
  go_wp2
  go_ret2
  exact ⟨w.heap.size, rfl, heap_new w _, Nat.le_refl _, ((Below.refl _ _).alloc (Nat.le_refl _) _).drew⟩

set_option maxRecDepth 100000 in
set_option maxHeartbeats 1000000 in
theorem seekLast_some {q t j : Nat} {es : List XE} {rest : List Value} {nx pv : Value} {e : XE} {c : Int} {fi r : Value} {ver : Int} {w : World} (hq : PageAt w q es rest nx pv) (hj : es.length = j + 1) (he : es[j]? = some e) (ht : TreeW G w t c fi (ptr q) r ver) :
    Calls Tryd.prog 47 #[.pointer (some ⟨t, 0, none⟩)] w fun y w' => ∃ b, y = .returned (.tuple #[.pointer (some ⟨b, 0, none⟩), .nilIface]) ∧ EnumAt w' b .nilIface true j (.slice e.A e.m e.p) (ptr q) t ver ∧ w.heap.size ≤ b ∧ Below w.heap.size w w' := by
  have hle := hq.le
  have c3 : w.cell? ⟨t, 3, none⟩ = some (.pointer (some ⟨q, 0, none⟩)) := cell_of_heap ht 3
  have c5 : w.cell? ⟨t, 5, none⟩ = some (.int .i64 ver) := cell_of_heap ht 5
  have cq : w.cell? ⟨q, 0, none⟩ = some (.int .i64 es.length) := by rw [hq.cell]; rfl
  have e0 : w.cell? ⟨q, 1 + j * 2, none⟩ = some (.slice e.A e.m e.p) := (hq.cell _).trans (pgL_at XE.cells 2 XE.two es rest [nx, pv] j 0 e _ he (by omega) rfl)
  have hw1 : (es.length : Int) - 1 = (j : Int) := by omega
  have hw2 : IntKind.i64.wrap (j : Int) = (j : Int) := IntWalk.i64_in _ (by omega)
  have hj1 : (j : Int) < 129 := by omega
  have hj2 : (0 : Int) ≤ j := by omega
  clear hq he ht hj
  go_enter Tryd.func47, Tryd.ntmps47
  go_wp2
  go_region
  go_wp2
  go_ret2
  exact ⟨w.heap.size, rfl, heap_new w _, Nat.le_refl _, ((Below.refl _ _).alloc (Nat.le_refl _) _).drew⟩

set_option maxRecDepth 100000 in
set_option maxHeartbeats 1000000 in
theorem seekFirst_none {t : Nat} {c ver : Int} {la r : Value} {E : Value} {w : World} (ht : TreeW G w t c (.pointer none) la r ver) (hE : HasEof w E) :
    Calls Tryd.prog 45 #[.pointer (some ⟨t, 0, none⟩)] w fun y w' => y = .returned (.tuple #[.pointer none, E]) ∧ Below w.heap.size w w' := by
  have c2 : w.cell? ⟨t, 2, none⟩ = some (.pointer none) := cell_of_heap ht 2
  obtain ⟨gl, gc, a, rfl⟩ := hE
  clear ht
  go_enter Tryd.func45, Tryd.ntmps45
  go_wp2
  go_region
  go_wp2
  go_ret2
  exact ⟨rfl, (Below.refl _ _).drew⟩

set_option maxRecDepth 100000 in
set_option maxHeartbeats 1000000 in
theorem seekLast_none {t : Nat} {c ver : Int} {fi r : Value} {E : Value} {w : World} (ht : TreeW G w t c fi (.pointer none) r ver) (hE : HasEof w E) :
    Calls Tryd.prog 47 #[.pointer (some ⟨t, 0, none⟩)] w fun y w' => y = .returned (.tuple #[.pointer none, E]) ∧ Below w.heap.size w w' := by
  have c3 : w.cell? ⟨t, 3, none⟩ = some (.pointer none) := cell_of_heap ht 3
  obtain ⟨gl, gc, a, rfl⟩ := hE
  clear ht
  go_enter Tryd.func47, Tryd.ntmps47
  go_wp2
  go_region
  go_wp2
  go_ret2
  exact ⟨rfl, (Below.refl _ _).drew⟩

set_option maxRecDepth 100000 in
set_option maxHeartbeats 1000000 in
theorem len_at {t : Nat} {c ver : Int} {fi la r : Value} {w : World} (ht : TreeW G w t c fi la r ver) :
    Calls Tryd.prog 42 #[.pointer (some ⟨t, 0, none⟩)] w fun y w' => y = .returned (.int .i64 c) ∧ Below w.heap.size w w' := by
  have c0 : w.cell? ⟨t, 0, none⟩ = some (.int .i64 c) := cell_of_heap ht 0
  clear ht
  go_enter Tryd.func42, Tryd.ntmps42
  go_wp2
  go_ret
  exact ⟨rfl, Below.refl _ _⟩

set_option maxRecDepth 100000 in
set_option maxHeartbeats 1000000 in
theorem first_some {q t : Nat} {es : List XE} {rest : List Value} {nx pv : Value} {e : XE} {c : Int} {la r : Value} {ver : Int} {w : World} (hq : PageAt w q es rest nx pv) (he : es[0]? = some e) (ht : TreeW G w t c (ptr q) la r ver) :
    Calls Tryd.prog 43 #[.pointer (some ⟨t, 0, none⟩)] w fun y w' => y = .returned (.tuple #[.slice e.A e.m e.p, .slice e.B e.n e.q]) ∧ Below w.heap.size w w' := by
  have c2 : w.cell? ⟨t, 2, none⟩ = some (.pointer (some ⟨q, 0, none⟩)) := cell_of_heap ht 2
  have e0 : w.cell? ⟨q, 1, none⟩ = some (.slice e.A e.m e.p) := (hq.cell _).trans (by have := pgL_at XE.cells 2 XE.two es rest [nx, pv] 0 0 e _ he (by omega) rfl; exact this)
  have e1 : w.cell? ⟨q, 2, none⟩ = some (.slice e.B e.n e.q) := (hq.cell _).trans (by have := pgL_at XE.cells 2 XE.two es rest [nx, pv] 0 1 e _ he (by omega) rfl; exact this)
  clear hq he ht
  go_enter Tryd.func43, Tryd.ntmps43
  go_wp2
  go_region
  go_wp2
  go_ret2
  exact ⟨rfl, (Below.refl _ _).drew⟩

set_option maxRecDepth 100000 in
set_option maxHeartbeats 1000000 in
theorem last_some {q t j : Nat} {es : List XE} {rest : List Value} {nx pv : Value} {e : XE} {c : Int} {fi r : Value} {ver : Int} {w : World} (hq : PageAt w q es rest nx pv) (hj : es.length = j + 1) (he : es[j]? = some e) (ht : TreeW G w t c fi (ptr q) r ver) :
    Calls Tryd.prog 44 #[.pointer (some ⟨t, 0, none⟩)] w fun y w' => y = .returned (.tuple #[.slice e.A e.m e.p, .slice e.B e.n e.q]) ∧ Below w.heap.size w w' := by
  have hle := hq.le
  have c3 : w.cell? ⟨t, 3, none⟩ = some (.pointer (some ⟨q, 0, none⟩)) := cell_of_heap ht 3
  have cq : w.cell? ⟨q, 0, none⟩ = some (.int .i64 es.length) := by rw [hq.cell]; rfl
  have e0 : w.cell? ⟨q, 1 + j * 2, none⟩ = some (.slice e.A e.m e.p) := (hq.cell _).trans (pgL_at XE.cells 2 XE.two es rest [nx, pv] j 0 e _ he (by omega) rfl)
  have e1 : w.cell? ⟨q, 1 + j * 2 + 1, none⟩ = some (.slice e.B e.n e.q) := (hq.cell _).trans (pgL_at XE.cells 2 XE.two es rest [nx, pv] j 1 e _ he (by omega) rfl)
  have hw1 : (es.length : Int) - 1 = (j : Int) := by omega
  have hw2 : IntKind.i64.wrap (j : Int) = (j : Int) := IntWalk.i64_in _ (by omega)
  have hj1 : (j : Int) < 129 := by omega
  have hj2 : (0 : Int) ≤ j := by omega
  clear hq he ht hj
  go_enter Tryd.func44, Tryd.ntmps44
  go_wp2
  go_region
  go_wp2
  go_region
  go_wp2
  go_ret2
  exact ⟨rfl, (Below.refl _ _).drew.drew⟩

set_option maxRecDepth 100000 in
set_option maxHeartbeats 1000000 in
theorem first_none {t : Nat} {c ver : Int} {la r : Value} {w : World} (ht : TreeW G w t c (.pointer none) la r ver) :
    Calls Tryd.prog 43 #[.pointer (some ⟨t, 0, none⟩)] w fun y w' => y = .returned (.tuple #[.slice none 0 0, .slice none 0 0]) ∧ Below w.heap.size w w' := by
  have c2 : w.cell? ⟨t, 2, none⟩ = some (.pointer none) := cell_of_heap ht 2
  clear ht
  go_enter Tryd.func43, Tryd.ntmps43
  go_wp2
  go_ret2
  exact ⟨rfl, Below.refl _ _⟩

set_option maxRecDepth 100000 in
set_option maxHeartbeats 1000000 in
theorem last_none {t : Nat} {c ver : Int} {fi r : Value} {w : World} (ht : TreeW G w t c fi (.pointer none) r ver) :
    Calls Tryd.prog 44 #[.pointer (some ⟨t, 0, none⟩)] w fun y w' => y = .returned (.tuple #[.slice none 0 0, .slice none 0 0]) ∧ Below w.heap.size w w' := by
  have c3 : w.cell? ⟨t, 3, none⟩ = some (.pointer none) := cell_of_heap ht 3
  clear ht
  go_enter Tryd.func44, Tryd.ntmps44
  go_wp2
  go_ret2
  exact ⟨rfl, Below.refl _ _⟩

end Go.Proofs.YtffgkocokkhahaaDoor

/- The two orders as the program has them: collate, collateDesc, impl.CollateRows. -/
namespace Go.Proofs.YtffgkocokkhahaaDoor
open Go.RowKit

theorem collV_three : ∀ (l m : List VV), PlainL l → PlainL m → collV l m = -1 ∨ collV l m = 0 ∨ collV l m = 1
  | [], _, _, _ => .inr (.inl rfl)
  | _ :: _, [], _, _ => .inr (.inl rfl)
  | x :: l, y :: m, hl, hm => by
    unfold collV
    split
    · exact collV_three l m (fun z hz => hl z (by simp [hz])) (fun z hz => hm z (by simp [hz]))
    · exact coll_three _ _ (hl x (by simp)) (hm y (by simp))

theorem collV_kc {l m : List VV} (hl : ConcL l) (hm : ConcL m) : collV l m = kc false l m := collV_lex l m hl.plain hm.plain
theorem collV_kcD {l m : List VV} (hl : ConcL l) (hm : ConcL m) : - collV l m = kc true l m := by rw [collV_lex l m hl.plain hm.plain]; rfl

set_option maxHeartbeats 400000 in
theorem desc_any (c : Int) (hc : c = -1 ∨ c = 0 ∨ c = 1) (u v : Value) (w : World) (H : Hid (Calls Tryd.prog 65 #[u, v] w (ColP c w))) : Calls Tryd.prog 63 #[u, v] w (ColP (-c) w) := by
  rcases hc with rfl | rfl | rfl <;>
  · go_enter Tryd.func63, Tryd.ntmps63
    go_wp2_with (go_at_call 65; refine H.out.mono ?_; rintro e w1 ⟨rfl, hb1⟩)
    go_ret
    exact ⟨rfl, hb1⟩

/-- The function that compares, of two lists of as many values. -/
theorem cmpD_any (d : Bool) (l m : List VV) (hlm : l.length = m.length) (hm : l.length ≤ 2147483647) (hl : ConcL l) (hc : ConcL m) (u v : Value) (w : World) (hu : Ins w l u) (hv : Ins w m v) :
    Calls Tryd.prog (cmpN d) #[u, v] w (ColP (kc d l m) w) := by
  have h := collate_any l m hlm hm hl hc u v w hu hv
  cases d with
  | false => rw [← collV_kc hl hc]; exact h
  | true => rw [← collV_kcD hl hc]; exact desc_any _ (collV_three l m hl.plain hc.plain) u v w (Lib.hid h)

set_option maxHeartbeats 400000 in
theorem zzDesc_of (c : Int) (u v : Value) (w : World) (H : Hid (Calls Tryd.prog 63 #[u, v] w (ColP c w))) : Calls Tryd.prog 28 #[u, v] w (ColP c w) := by
  go_enter Tryd.func28, Tryd.ntmps28
  go_wp2_with (go_at_call 63; refine H.out.mono ?_; rintro e w1 ⟨rfl, hb1⟩)
  go_ret
  exact ⟨rfl, hb1⟩

set_option maxHeartbeats 1000000 in
theorem implRowsD_any (l m : List VV) (A B : Option Addr) (c d : Nat) (hlm : l.length = m.length) (hm : l.length ≤ 2147483647) (hl : ConcL l) (hc : ConcL m) (w : World) (hA : LAt w A l) (hB : LAt w B m) :
    Calls Tryd.prog 16 #[.slice A l.length c, .slice B m.length d, .bool true] w (ColP (kc true l m) w) := by
  have HA := Lib.hid (fun w' (h : Below w.heap.size w w') => ins_v l A c w' (hA.below h) hl hm)
  have HB := Lib.hid (fun w' (h : Below w.heap.size w w') => ins_v m B d w' (hB.below h) hc (by rw [← hlm]; exact hm))
  have HC := Lib.hid (fun w' u v hu hv => zzDesc_of _ u v w' (Lib.hid (cmpD_any true l m hlm hm hl hc u v w' hu hv)))
  clear hA hB hlm hm hl hc
  go_enter Tryd.func16, Tryd.ntmps16
  go_wp2_with (first
    | (go_at_call_of 29 (Value.slice A l.length c); refine (HA.out _ (Below.refl _ _)).mono ?_; rintro e w1 ⟨v1, rfl, hi1, hb1⟩; have HI1 := Lib.hid hi1; clear hi1)
    | (go_at_call 29; refine (HB.out _ hb1).mono ?_; rintro e w2 ⟨v2, rfl, hi2, hb2⟩; have HI2 := Lib.hid hi2; clear hi2)
    | (go_at_call 28; refine (HC.out _ _ _ (HI1.out.below hb2) HI2.out).mono ?_; rintro e w3 ⟨rfl, hb3⟩))
  go_ret
  exact ⟨rfl, up_below' (up_below' hb1 hb2) hb3⟩

/-- impl.CollateRows, in either order. -/
theorem rowsKc_any (x : Bool) (l m : List VV) (A B : Option Addr) (c d : Nat) (hlm : l.length = m.length) (hm : l.length ≤ 2147483647) (hl : ConcL l) (hc : ConcL m) (w : World) (hA : LAt w A l) (hB : LAt w B m) :
    Calls Tryd.prog 16 #[.slice A l.length c, .slice B m.length d, .bool x] w (ColP (kc x l m) w) := by
  cases x with
  | false => rw [← collV_kc hl hc]; exact implRows_any l m A B c d hlm hm hl hc w hA hB
  | true => exact implRowsD_any l m A B c d hlm hm hl hc w hA hB

end Go.Proofs.YtffgkocokkhahaaDoor

/- A tree and the data of its keys and values: Set, Get, Delete, Clear, Len. -/
namespace Go.Proofs.YtffgkocokkhahaaDoor
open Go.RowKit
variable {dsc : Bool} {G : Value}

set_option maxHeartbeats 1000000 in
theorem ins_nil (A : Option Addr) (c : Nat) (w : World) : Calls Tryd.prog 29 #[.slice A 0 c] w fun y w' => y = .returned (.slice none 0 0) ∧ w' = w := by
  go_enter Tryd.func29, Tryd.ntmps29
  go_wp2
  go_loopw [3, 8] (fun r i wr => r = .slice none 0 0 ∧ i = .int .i64 0 ∧ wr = w) (fun _ _ _ => 0)
  case atStart => exact ⟨rfl, rfl, rfl⟩
  case round =>
    obtain ⟨rfl, rfl, rfl⟩ := hrel
    go_wp2
    go_ret
    exact ⟨rfl, rfl⟩

/-- A list that is handed to the tree. -/
def InsPD (l : List VV) (w : World) (y : Ending) (w' : World) : Prop :=
  ∃ A c vs, y = .returned (.slice A l.length c) ∧ Below w.heap.size w w' ∧ InsD (fun k => w.heap.size ≤ k ∧ k < w'.heap.size) w' l A vs

theorem InsD.nil (D : Nat → Prop) (w : World) : InsD D w [] none [] :=
  ⟨⟨rfl, fun h => by cases h⟩, ⟨rfl, fun j x v hx => by simp at hx⟩, fun ad e => (by cases e), fun j v hv => by simp at hv⟩

theorem insPD_all (l : List VV) (A : Option Addr) (c : Nat) (w : World) (hl : LAt w A l) (hgood : ∀ (j : Nat) (x : VV), l[j]? = some x → x.good) (hm : l.length ≤ 2147483647) : Calls Tryd.prog 29 #[.slice A l.length c] w (InsPD l w) := by
  cases hll : l with
  | nil =>
    refine (ins_nil A c w).mono ?_
    rintro y w' ⟨rfl, rfl⟩
    exact ⟨none, 0, [], rfl, Below.refl _ _, InsD.nil _ _⟩
  | cons x xs =>
    rw [← hll]
    have h0 : 0 < l.length := by rw [hll]; simp
    refine (ins2_all l A c w hl hgood hm).mono ?_
    rintro y w' ⟨A1, c1, vs, rfl, hr, hk, hb, hrow, hval⟩
    refine ⟨A1, c1, vs, rfl, hb, ⟨hr, hk, fun ad e => ⟨hrow ad e, ?_⟩, fun j v hv t a n c e => ⟨hval j v hv t a n c e, ?_⟩⟩⟩
    · obtain ⟨ad', e', hlt, _⟩ := hr.2 h0
      rw [e] at e'
      obtain rfl := Option.some.inj e'
      exact hlt
    · have hj : j < l.length := by
        have := (List.getElem?_eq_some_iff.1 hv).1
        rw [hk.1] at this
        exact this
      obtain ⟨y, _, hy⟩ := hk.2 j _ v (List.getElem?_eq_getElem hj) hv
      exact rep_lt hy e

theorem TreeAt.lt {w : World} {t : Nat} {L : List XE} {S : Nat → Prop} (h : TreeAt G w t L S) : ∀ k, S k → k < w.heap.size := by
  cases h with
  | none h => obtain ⟨ver, h⟩ := h; rintro k rfl; exact lt_of_heap h
  | lone h =>
    obtain ⟨⟨ver, ht⟩, ⟨rest, hq⟩, hs⟩ := h
    rintro k (rfl | rfl)
    · exact lt_of_heap ht
    · exact hq.lt
  | many h =>
    obtain ⟨ver, ht⟩ := h.tree
    obtain ⟨b0, bs, xr, _, hx⟩ := h.root
    rintro k ((rfl | rfl) | hk)
    · exact lt_of_heap ht
    · exact hx.lt
    · obtain ⟨p, hp, rfl⟩ := List.mem_map.1 hk
      exact chain_lt h.chain p hp
theorem TreeAt.chg {T : Nat → Prop} {w w' : World} {t : Nat} {L : List XE} {S : Nat → Prop} (h : TreeAt G w t L S) (hc : Chg T w w') (hn : ∀ k, S k → ¬ T k) : TreeAt G w' t L S := by
  cases h with
  | none h => obtain ⟨ver, h⟩ := h; exact .none ⟨ver, h.chg hc (hn t rfl)⟩
  | lone h =>
    obtain ⟨⟨ver, ht⟩, ⟨rest, hq⟩, hs⟩ := h
    exact .lone ⟨⟨ver, ht.chg hc (hn t (.inl rfl))⟩, ⟨rest, hq.chg hc (hn _ (.inr rfl))⟩, hs⟩
  | many h =>
    obtain ⟨⟨ver, ht⟩, ⟨b0, bs, xr, hb, hx⟩, hch, hs, hd, h2⟩ := h
    exact .many ⟨⟨ver, ht.chg hc (hn t (.inl (.inl rfl)))⟩, ⟨b0, bs, xr, hb, hx.chg hc (hn _ (.inl (.inr rfl)))⟩, chain_chg hch hc (fun p hp => hn _ (.inr (mem_blocks hp))), hs, hd, h2⟩

/-- An entry whose values lie among D. -/
structure EOk (D : Nat → Prop) (w : World) (e : XE) : Prop where
  len : e.m = e.l.length
  vlen : e.n = e.V.length
  conc : ConcL e.l
  vconc : ConcL e.V
  short : e.l.length ≤ 1000
  vshort : e.V.length ≤ 1000
  data : ∃ vs, InsD D w e.l e.A vs
  vdata : ∃ vs, InsD D w e.V e.B vs

theorem EOk.chg {D S : Nat → Prop} {w w' : World} {e : XE} (h : EOk D w e) (hc : Chg S w w') (hn : ∀ k, D k → ¬ S k) : EOk D w' e := by
  obtain ⟨vs, hd⟩ := h.data
  obtain ⟨us, hv⟩ := h.vdata
  exact ⟨h.len, h.vlen, h.conc, h.vconc, h.short, h.vshort, ⟨vs, hd.chg hc hn⟩, ⟨us, hv.chg hc hn⟩⟩
theorem EOk.mono {D E : Nat → Prop} {w : World} {e : XE} (h : EOk D w e) (hn : ∀ k, D k → E k) : EOk E w e := by
  obtain ⟨vs, hd⟩ := h.data
  obtain ⟨us, hv⟩ := h.vdata
  exact ⟨h.len, h.vlen, h.conc, h.vconc, h.short, h.vshort, ⟨vs, hd.mono hn⟩, ⟨us, hv.mono hn⟩⟩
theorem InsD.ins {D : Nat → Prop} {w : World} {l : List VV} {A : Option Addr} {vs : List Value} (h : InsD D w l A vs) (c : Nat) : Ins w l (.slice A l.length c) := ⟨A, c, vs, rfl, h.reads, h.rep⟩

/-- A tree of these pairs; what changes it changes M alone; its data lie among D. -/
structure TrX (dsc : Bool) (n t : Nat) (st : List PR) (M D : Nat → Prop) (w : World) : Prop where
  ex : ∃ L, TreeAt (cmpV dsc) w t L M ∧ L.map XE.pr = st ∧ ∀ e ∈ L, EOk D w e
  ok : StOk dsc n st
  len : st.length ≤ 1000
  data : ∀ k, D k → k < w.heap.size ∧ ¬ M k

section
variable {n t : Nat} {st : List PR} {M D : Nat → Prop} {w w' : World}

theorem TrX.lt (h : TrX dsc n t st M D w) {k : Nat} (hk : M k) : k < w.heap.size := by
  obtain ⟨L, hT, _⟩ := h.ex
  exact hT.lt k hk
theorem TrX.chg {T : Nat → Prop} (h : TrX dsc n t st M D w) (hc : Chg T w w') (hM : ∀ k, M k → ¬ T k) (hD : ∀ k, D k → ¬ T k) : TrX dsc n t st M D w' := by
  obtain ⟨L, hT, he, hk⟩ := h.ex
  exact ⟨⟨L, hT.chg hc hM, he, fun e h => (hk e h).chg hc hD⟩, h.ok, h.len, fun k hk => ⟨Nat.lt_of_lt_of_le (h.data k hk).1 hc.size, (h.data k hk).2⟩⟩
theorem TrX.below (h : TrX dsc n t st M D w) (hb : Below w.heap.size w w') : TrX dsc n t st M D w' := h.chg (Chg.of_below (S := fun _ => False) hb) (fun _ _ h => h) (fun _ _ h => h)
theorem TrX.more {E : Nat → Prop} (h : TrX dsc n t st M D w) (hE : ∀ k, D k → E k) (hd : ∀ k, E k → k < w.heap.size ∧ ¬ M k) : TrX dsc n t st M E w := by
  obtain ⟨L, hT, he, hk⟩ := h.ex
  exact ⟨⟨L, hT, he, fun e h => (hk e h).mono hE⟩, h.ok, h.len, hd⟩

theorem pr_at {L : List XE} {j : Nat} {e : XE} (he : L.map XE.pr = st) (h : L[j]? = some e) : st[j]? = some e.pr := by rw [← he, List.getElem?_map, h]; rfl
theorem eraseIdx_map' {α β : Type} (f : α → β) : (l : List α) → (i : Nat) → (l.eraseIdx i).map f = (l.map f).eraseIdx i
  | [], _ => rfl
  | _ :: _, 0 => rfl
  | x :: xs, i + 1 => by rw [List.eraseIdx_cons_succ, List.map_cons, List.map_cons, List.eraseIdx_cons_succ, eraseIdx_map' f xs i]

/-- What find may ask of such a tree. -/
theorem TrX.asks {L : List XE} (hn : n ≤ 1000) (hst : L.map XE.pr = st) (hk : ∀ e ∈ L, EOk D w e) (hlen : ∀ x ∈ st, x.k.length = n) {K : List VV} {A : Option Addr} {c : Nat} {vs : List Value} (hK : InsD D w K A vs) (hc : ConcL K) (hl : K.length = n) :
    Asks dsc w (.slice A K.length c) L (signP dsc K st) := by
  intro j e he w' hb
  have hj : st[j]? = some e.pr := by rw [← hst, List.getElem?_map, he]; rfl
  have hE := hk e (List.mem_of_getElem? he)
  obtain ⟨us, hd⟩ := hE.data
  have h1 := hlen e.pr (List.mem_of_getElem? hj)
  rw [signP_at hj, hE.len]
  have hh : e.l.length = n := h1
  exact cmpD_any dsc K e.l (by rw [hl, hh]) (by omega) hc hE.conc _ _ w' ((hK.ins c).below hb) ((hd.ins e.p).below hb)

def SetQ (dsc : Bool) (n t : Nat) (st' : List PR) (M D : Nat → Prop) (w : World) (y : Ending) (w' : World) : Prop :=
  y = .returned (.tuple #[]) ∧ ∃ M', TrX dsc n t st' M' D w' ∧ Chg M w w' ∧ ∀ k, M' k → M k ∨ w.heap.size ≤ k

theorem tr_of {L' : List XE} {st' : List PR} {S' : Nat → Prop} (h : TrX dsc n t st M D w) (hT : TreeAt (cmpV dsc) w' t L' S') (hm : L'.map XE.pr = st') (hk : ∀ e ∈ L', EOk D w' e) (hok : StOk dsc n st') (hl : st'.length ≤ 1000) (hc : Chg M w w') (hS : ∀ k, S' k → M k ∨ w.heap.size ≤ k) : TrX dsc n t st' S' D w' := by
  refine ⟨⟨L', hT, hm, hk⟩, hok, hl, fun k hk => ⟨Nat.lt_of_lt_of_le (h.data k hk).1 hc.size, fun hs => ?_⟩⟩
  rcases hS k hs with h1 | h1
  · exact (h.data k hk).2 h1
  · have := (h.data k hk).1; omega

theorem tr_set (h : TrX dsc n t st M D w) (hn : n ≤ 1000) {K V : List VV} {A B : Option Addr} {c d : Nat} {vs us : List Value} {N : Int} (hK : InsD D w K A vs) (hV : InsD D w V B us) (hcK : ConcL K) (hcV : ConcL V) (hl : K.length = n) (hlV : V.length ≤ 1000) (h9 : st.length + 1 ≤ 1000) :
    Calls Tryd.prog 37 #[.pointer (some ⟨t, 0, none⟩), .slice A K.length c, .slice B V.length d] w (SetQ dsc n t (nxtT dsc st ⟨.set, K, V, N⟩) M D w) := by
  obtain ⟨L, hT, he, hk⟩ := h.ex
  have hlen : L.length = st.length := by rw [← he]; simp
  have hp := h.ok.pos hl
  have ha := TrX.asks (dsc := dsc) (c := c) hn he hk h.ok.len hK hcK hl
  rw [← hlen] at hp
  have hnx := nxtT_ok (x := ⟨.set, K, V, N⟩) h.ok (fun _ => hl)
  have hnl := nxtT_len dsc st ⟨.set, K, V, N⟩
  have hME : ∀ k, D k → ¬ M k := fun k hk => (h.data k hk).2
  have hE : ∀ w' : World, Chg M w w' → EOk D w' ⟨K, A, K.length, c, V, B, V.length, d⟩ := fun w' hc => ⟨rfl, rfl, hcK, hcV, by simp only; omega, hlV, ⟨vs, hK.chg hc hME⟩, ⟨us, hV.chg hc hME⟩⟩
  cases hth : thereP dsc K st with
  | true =>
    rw [hth] at hp
    obtain ⟨y, hy⟩ : ∃ y, L[placeP dsc K st]? = some y := ⟨_, List.getElem?_eq_getElem (hp.hit rfl).1⟩
    have hsy : st[placeP dsc K st]? = some y.pr := pr_at he hy
    have e1 : nxtT dsc st ⟨.set, K, V, N⟩ = st.set (placeP dsc K st) ⟨y.l, V⟩ := by
      unfold nxtT
      simp only [hsy, hth, if_true]
      rfl
    rw [e1] at hnx hnl ⊢
    refine (put_any t L M ⟨K, A, K.length, c, V, B, V.length, d⟩ y _ _ w hT (by omega) ha hp hy).mono ?_
    rintro z w' ⟨rfl, S', hT', hc, hS⟩
    refine ⟨rfl, S', tr_of h hT' ?_ (fun e hm => ?_) hnx (by omega) hc hS, hc, hS⟩
    · rw [List.map_set, he]
      rfl
    · rcases List.mem_or_eq_of_mem_set hm with hm | rfl
      · exact (hk e hm).chg hc hME
      · have h1 := (hk y (List.mem_of_getElem? hy)).chg hc hME
        have h2 := hE w' hc
        exact ⟨h1.len, h2.vlen, h1.conc, h2.vconc, h1.short, h2.vshort, h1.data, h2.vdata⟩
  | false =>
    rw [hth] at hp
    have e1 : nxtT dsc st ⟨.set, K, V, N⟩ = st.take (placeP dsc K st) ++ ⟨K, V⟩ :: st.drop (placeP dsc K st) := by
      unfold nxtT
      simp only [hth]
      split <;> rfl
    rw [e1] at hnx hnl ⊢
    refine (set_any t L M ⟨K, A, K.length, c, V, B, V.length, d⟩ _ _ w hT (by omega) ha hp).mono ?_
    rintro z w' ⟨rfl, S', hT', hc, hS⟩
    refine ⟨rfl, S', tr_of h hT' ?_ (fun e hm => ?_) hnx (by omega) hc hS, hc, hS⟩
    · rw [List.map_append, List.map_cons, List.map_take, List.map_drop, he]
      rfl
    · rcases List.mem_append.1 hm with hm | hm
      · exact (hk e (List.mem_of_mem_take hm)).chg hc hME
      · rcases List.mem_cons.1 hm with rfl | hm
        · exact hE w' hc
        · exact (hk e (List.mem_of_mem_drop hm)).chg hc hME

/-- A value that lies among D. -/
def HeldV (D : Nat → Prop) (w : World) (l : List VV) (v : Value) : Prop := ∃ A c vs, v = .slice A l.length c ∧ InsD D w l A vs ∧ ConcL l ∧ l.length ≤ 1000
theorem HeldV.chg {S : Nat → Prop} {l : List VV} {v : Value} (h : HeldV D w l v) (hc : Chg S w w') (hn : ∀ k, D k → ¬ S k) : HeldV D w' l v := by
  obtain ⟨A, c, vs, h1, h2, h3⟩ := h
  exact ⟨A, c, vs, h1, h2.chg hc hn, h3⟩
theorem HeldV.outs {l : List VV} {v : Value} (h : HeldV D w l v) : Calls Tryd.prog 39 #[v] w (OutsPost l w) := by
  obtain ⟨A, c, vs, rfl, h2, h3, h4⟩ := h
  exact outs_any l A c vs w h2.reads h2.rep h3.good (by omega)
theorem HeldV.nil : HeldV D w [] (.slice none 0 0) := ⟨none, 0, [], rfl, InsD.nil _ _, fun j x h => by simp at h, by simp⟩
theorem EOk.heldK {e : XE} (h : EOk D w e) : HeldV D w e.l (.slice e.A e.m e.p) := by
  obtain ⟨vs, hd⟩ := h.data
  exact ⟨e.A, e.p, vs, by rw [h.len], hd, h.conc, h.short⟩
theorem EOk.heldV {e : XE} (h : EOk D w e) : HeldV D w e.V (.slice e.B e.n e.q) := by
  obtain ⟨vs, hd⟩ := h.vdata
  exact ⟨e.B, e.q, vs, by rw [h.vlen], hd, h.vconc, h.vshort⟩

theorem tr_get (h : TrX dsc n t st M D w) (hn : n ≤ 1000) {K : List VV} {A : Option Addr} {c : Nat} {vs : List Value} (hK : InsD D w K A vs) (hcK : ConcL K) (hl : K.length = n) :
    Calls Tryd.prog 38 #[.pointer (some ⟨t, 0, none⟩), .slice A K.length c] w fun y w' => ∃ l v, y = .returned (.tuple #[v, .bool (thereP dsc K st)]) ∧ HeldV D w l v ∧ (thereP dsc K st = true → (st[placeP dsc K st]?).map PR.v = some l) ∧ Below w.heap.size w w' := by
  obtain ⟨L, hT, he, hk⟩ := h.ex
  have hlen : L.length = st.length := by rw [← he]; simp
  have hl9 := h.len
  have hp := h.ok.pos hl
  have ha := TrX.asks (dsc := dsc) (c := c) hn he hk h.ok.len hK hcK hl
  rw [← hlen] at hp
  cases hth : thereP dsc K st with
  | true =>
    rw [hth] at hp
    obtain ⟨y, hy⟩ : ∃ y, L[placeP dsc K st]? = some y := ⟨_, List.getElem?_eq_getElem (hp.hit rfl).1⟩
    refine (get_any t L M A _ c _ true _ _ w hT (by omega) ha hp (.inr ⟨rfl, y, hy, rfl⟩)).mono ?_
    rintro z w' ⟨rfl, hb⟩
    exact ⟨y.V, _, rfl, (hk y (List.mem_of_getElem? hy)).heldV, fun _ => by rw [pr_at he hy]; rfl, hb⟩
  | false =>
    rw [hth] at hp
    refine (get_any t L M A _ c _ false _ _ w hT (by omega) ha hp (.inl ⟨rfl, rfl⟩)).mono ?_
    rintro z w' ⟨rfl, hb⟩
    exact ⟨[], _, rfl, HeldV.nil, fun h => (by cases h), hb⟩

theorem tr_delete (h : TrX dsc n t st M D w) (hn : n ≤ 1000) {K V : List VV} {N : Int} {A : Option Addr} {c : Nat} {vs : List Value} (hK : InsD D w K A vs) (hcK : ConcL K) (hl : K.length = n) :
    Calls Tryd.prog 40 #[.pointer (some ⟨t, 0, none⟩), .slice A K.length c] w fun y w' => y = .returned (.bool (thereP dsc K st)) ∧ ∃ M', TrX dsc n t (nxtT dsc st ⟨.delete, K, V, N⟩) M' D w' ∧ Chg M w w' ∧ ∀ k, M' k → M k ∨ w.heap.size ≤ k := by
  obtain ⟨L, hT, he, hk⟩ := h.ex
  have hlen : L.length = st.length := by rw [← he]; simp
  have hl9 := h.len
  have hp := h.ok.pos hl
  have ha := TrX.asks (dsc := dsc) (c := c) hn he hk h.ok.len hK hcK hl
  rw [← hlen] at hp
  have hnx := nxtT_ok (x := ⟨.delete, K, V, N⟩) h.ok (fun _ => hl)
  have e1 : nxtT dsc st ⟨.delete, K, V, N⟩ = if thereP dsc K st then st.eraseIdx (placeP dsc K st) else st := rfl
  have hnl : (nxtT dsc st ⟨.delete, K, V, N⟩).length ≤ 1000 := by
    rw [e1]
    split
    · have := List.length_eraseIdx_le st (placeP dsc K st); omega
    · exact h.len
  have hME : ∀ k, D k → ¬ M k := fun k hk => (h.data k hk).2
  refine (del_any t L M A _ c _ _ _ w hT (by omega) ha hp).mono ?_
  rintro z w' ⟨rfl, S', hT', hc, hS⟩
  refine ⟨rfl, S', tr_of h hT' ?_ (fun e hm => ?_) hnx hnl hc hS, hc, hS⟩
  · rw [e1]
    split
    · rw [eraseIdx_map', he]
    · exact he
  · refine (hk e ?_).chg hc hME
    split at hm
    · exact (List.eraseIdx_sublist L _).mem hm
    · exact hm

theorem tr_clear (h : TrX dsc n t st M D w) {K V : List VV} {N : Int} :
    Calls Tryd.prog 41 #[.pointer (some ⟨t, 0, none⟩)] w (SetQ dsc n t (nxtT dsc st ⟨.clear, K, V, N⟩) M D w) := by
  obtain ⟨L, hT, he, hk⟩ := h.ex
  have hlen : L.length = st.length := by rw [← he]; simp
  have hl9 := h.len
  refine (clear_any t L M w hT (by omega)).mono ?_
  rintro z w' ⟨rfl, S', hT', hc, hS⟩
  exact ⟨rfl, S', tr_of h hT' rfl (fun e hm => (by cases hm)) (StOk.nil _ _) (by simp [nxtT]) hc hS, hc, hS⟩

theorem tr_len (h : TrX dsc n t st M D w) :
    Calls Tryd.prog 42 #[.pointer (some ⟨t, 0, none⟩)] w fun y w' => y = .returned (.int .i64 st.length) ∧ Below w.heap.size w w' := by
  obtain ⟨L, hT, he, hk⟩ := h.ex
  have hlen : L.length = st.length := by rw [← he]; simp
  obtain ⟨P, r, ver, _, _, _, ht, _⟩ := tree_pages hT
  rw [← hlen]
  exact len_at ht
end

end Go.Proofs.YtffgkocokkhahaaDoor
