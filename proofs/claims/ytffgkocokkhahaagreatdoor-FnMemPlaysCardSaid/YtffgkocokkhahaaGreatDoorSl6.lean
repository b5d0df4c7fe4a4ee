/-
  impl.CollateRows and impl.KeyCompare of two lists of as many values, each of a type and a number.
-/
import Derived.Test.YtffgkocokkhahaaGreatDoorSl5
import Derived.Deep.RegionHeld3
import Derived.Test.YtffgkocokkhahaaGreatDoorBw
namespace Go.Proofs.YtffgkocokkhahaaGreatDoor
open Go.RowKit

/-- A list of values that are each of a type and a number. -/
def ConcL (l : List VV) : Prop := ∀ (j : Nat) (x : VV), l[j]? = some x → x.conc = true ∧ Rng x.n x.u x.f

theorem ConcL.good {l : List VV} (h : ConcL l) : ∀ (j : Nat) (x : VV), l[j]? = some x → x.good := fun j x hx => ⟨(h j x hx).2, conc_valid (h j x hx).1⟩

/-- A list of values as the program has it. -/
def Ins (w : World) (l : List VV) (v : Value) : Prop := ∃ A c vs, v = .slice A l.length c ∧ Reads w w.heap.size 1 A l.length vs ∧ RepK w l l.length vs
theorem Ins.below {w w' : World} {l : List VV} {v : Value} (h : Ins w l v) (hb : Below w.heap.size w w') : Ins w' l v := by
  obtain ⟨A, c, vs, h1, h2, h3⟩ := h
  exact ⟨A, c, vs, h1, h2.below hb, h3.below hb⟩
def InsP (l : List VV) (w : World) (e : Ending) (w' : World) : Prop := ∃ v, e = .returned v ∧ Ins w' l v ∧ Below w.heap.size w w'
theorem ins_v (l : List VV) (A : Option Addr) (c : Nat) (w : World) (hl : LAt w A l) (hg : ConcL l) (hm : l.length ≤ 2147483647) : Calls Tryz.prog 39 #[.slice A l.length c] w (InsP l w) :=
  (ins_any l A c w hl hg.good hm).mono fun _ _ ⟨A', c', vs, he, h1, h2, hb⟩ => ⟨_, he, ⟨A', c', vs, rfl, h1, h2⟩, hb⟩

theorem collate_any (l m : List VV) (hlm : l.length = m.length) (hm : l.length ≤ 2147483647) (hl : ConcL l) (hc : ConcL m) (u v : Value) (w : World) (hu : Ins w l u) (hv : Ins w m v) :
    Calls Tryz.prog 96 #[u, v] w (ColP (collV l m) w) := by
  obtain ⟨A, c, vs, rfl, h1, h2⟩ := hu
  obtain ⟨B, d, us, rfl, h3, h4⟩ := hv
  rw [← hlm] at h3 h4 ⊢
  rcases Nat.eq_zero_or_pos l.length with h0 | h0
  · have e : collV l m = 0 := by
      rw [List.eq_nil_of_length_eq_zero h0]
      rfl
    rw [e, h0]
    exact collate_none A B c d w
  · exact collate_some l m A B l.length c d vs us h0 rfl hlm.symm hm w h1 h3 h2 h4 (fun j x hx => (hl j x hx).1) (fun j x hx => (hc j x hx).1)

set_option maxHeartbeats 400000 in
theorem zzCollate_any (c : Int) (u v : Value) (w : World) (H : Hid (Calls Tryz.prog 96 #[u, v] w (ColP c w))) : Calls Tryz.prog 75 #[u, v] w (ColP c w) := by
  go_enter Tryz.func75, Tryz.ntmps75
  go_wp2_with (go_at_call 96; refine H.out.mono ?_; rintro e w1 ⟨rfl, hb1⟩)
  go_ret
  exact ⟨rfl, hb1⟩

set_option maxHeartbeats 1000000 in
theorem implRows_any (l m : List VV) (A B : Option Addr) (c d : Nat) (hlm : l.length = m.length) (hm : l.length ≤ 2147483647) (hl : ConcL l) (hc : ConcL m) (w : World) (hA : LAt w A l) (hB : LAt w B m) :
    Calls Tryz.prog 48 #[.slice A l.length c, .slice B m.length d, .bool false] w (ColP (collV l m) w) := by
  have HA := Lib.hid (fun w' (h : Below w.heap.size w w') => ins_v l A c w' (hA.below h) hl hm)
  have HB := Lib.hid (fun w' (h : Below w.heap.size w w') => ins_v m B d w' (hB.below h) hc (by rw [← hlm]; exact hm))
  have HC := Lib.hid (fun w' u v hu hv => zzCollate_any _ u v w' (collate_any l m hlm hm hl hc u v w' hu hv))
  clear hA hB hlm hm hl hc
  go_enter Tryz.func48, Tryz.ntmps48
  go_wp2_with (first
    | (go_at_call_of 39 (Value.slice A l.length c); refine (HA.out _ (Below.refl _ _)).mono ?_; rintro e w1 ⟨v1, rfl, hi1, hb1⟩; have HI1 := Lib.hid hi1; clear hi1)
    | (go_at_call 39; refine (HB.out _ hb1).mono ?_; rintro e w2 ⟨v2, rfl, hi2, hb2⟩; have HI2 := Lib.hid hi2; clear hi2)
    | (go_at_call 75; refine (HC.out _ _ _ (HI1.out.below hb2) HI2.out).mono ?_; rintro e w3 ⟨rfl, hb3⟩))
  go_ret
  exact ⟨rfl, up_below' (up_below' hb1 hb2) hb3⟩

/-- Two keys: their values, then their handles. -/
def keyC (c h g : Int) : Int := if c = 0 then h - g else c

set_option maxHeartbeats 1000000 in
theorem cmp_any (c h g : Int) (b1 b2 : Nat) (u v : Value) (h0 : 0 ≤ h) (h1 : h ≤ 9223372036854775807) (g0 : 0 ≤ g) (g1 : g ≤ 9223372036854775807) (w : World) (l1 : b1 < w.heap.size) (l2 : b2 < w.heap.size)
    (c1 : w.cell? ⟨b1, 0, none⟩ = some u) (c2 : w.cell? ⟨b1, 1, none⟩ = some (.int .i64 h)) (c3 : w.cell? ⟨b2, 0, none⟩ = some v) (c4 : w.cell? ⟨b2, 1, none⟩ = some (.int .i64 g))
    (HC : Hid (∀ w', Below w.heap.size w w' → Calls Tryz.prog 96 #[u, v] w' (ColP c w'))) :
    Calls Tryz.prog 107 #[.pointer (some ⟨b1, 0, none⟩), .pointer (some ⟨b2, 0, none⟩)] w (ColP (keyC c h g) w) := by
  have ew : wrap64 (h - g) = h - g := by unfold wrap64; omega
  have hz : (c != 0) = !(c == 0) := rfl
  cases hc : (c == 0) with
  | true =>
    obtain rfl : c = 0 := by simpa using hc
    have e1 : keyC 0 h g = h - g := rfl
    rw [e1]
    go_enter Tryz.func107, Tryz.ntmps107
    go_wp2
    go_region_held3 (fun w' => w'.cell? ⟨b1, 0, none⟩ = some u ∧ w'.cell? ⟨b2, 0, none⟩ = some v) (first | go_keep | exact ⟨(hcx _ _ l1).trans c1, (hcx _ _ l2).trans c3⟩) (first | (go_at_call 96; refine (HC.out _ (by repeat (first | exact Below.refl _ _ | refine Below.drew ?_ | refine below_drewN ?_ _))).mono ?_; rintro e w1 ⟨rfl, hb1⟩; obtain ⟨hcx, hfx⟩ := bcellD hb1))
    go_wp2
    have d2 := (hcx b1 1 l1).trans c2
    have d4 := (hcx b2 1 l2).trans c4
    go_quiet (fail)
    go_wp2
    go_ret
    exact ⟨by first | rfl | rw [ew], below_drewN (up_below ((Below.refl _ _).drew) (Nat.le_refl _) hb1) _⟩
  | false =>
    have hz2 : (c != 0) = true := by rw [hz, hc]; rfl
    have e1 : keyC c h g = c := by unfold keyC; rw [if_neg (by simpa using hc)]
    rw [e1]
    go_enter Tryz.func107, Tryz.ntmps107
    go_wp2
    go_region_held3 (fun w' => w'.cell? ⟨b1, 0, none⟩ = some u ∧ w'.cell? ⟨b2, 0, none⟩ = some v) (first | go_keep | exact ⟨(hcx _ _ l1).trans c1, (hcx _ _ l2).trans c3⟩) (first | (go_at_call 96; refine (HC.out _ (by repeat (first | exact Below.refl _ _ | refine Below.drew ?_ | refine below_drewN ?_ _))).mono ?_; rintro e w1 ⟨rfl, hb1⟩; obtain ⟨hcx, hfx⟩ := bcellD hb1))
    go_wp2
    go_ret
    exact ⟨rfl, up_below ((Below.refl _ _).drew) (Nat.le_refl _) hb1⟩

theorem cells_two (w : World) (C D : Array Value) (t u : TypeId) (j : Nat) : ((w.alloc (.cells C t)).alloc (.cells D u)).cell? ⟨w.heap.size, j, none⟩ = C[j]? := by
  rw [World.cell?_alloc_lt _ _ ⟨w.heap.size, j, none⟩ (by simp)]
  exact World.cell?_alloc_mark w C t (0, 0) j

end Go.Proofs.YtffgkocokkhahaaGreatDoor
