/-
  ql.coerce of any two values. PRINTED BY wip/tpl/gen_coe2.py.
-/
import Derived.Test.YtamekjbdpcflfaaCoe
namespace Go.Proofs.Ytamekjbdpcflfaa
open Go.RowKit

/-- What is known of two values brought together. -/
structure Together (x y a b : SV) : Prop where
  wa : a.wf
  wb : b.wf
  ka : x.isLit = false → a = x
  kb : y.isLit = false → b = y
  ia : ∀ n q m, x = .iInt n → y = .int q m → fitI q n = true → a = .int q n
  ib : ∀ n q m, y = .iInt n → x = .int q m → fitI q n = true → b = .int q n

def CoPost (x y : SV) (w : World) (e : Ending) (w' : World) : Prop :=
  ∃ a b u v, e = .returned (.tuple #[u, v]) ∧ Rep w' a u ∧ Rep w' b v ∧ Together x y a b ∧ Below w.heap.size w w'

theorem together_same {x y : SV} (hx : x.wf) (hy : y.wf) (h : x.tn = y.tn) : Together x y x y where
  wa := hx
  wb := hy
  ka := fun _ => rfl
  kb := fun _ => rfl
  ia := by rintro n q m rfl rfl; exact absurd h (by cases q <;> simp [SV.tn])
  ib := by rintro n q m rfl rfl; exact absurd h (by cases q <;> simp [SV.tn])

theorem together_cc {x y : SV} (hx : x.wf) (hy : y.wf) (hlx : x.isLit = false) (hly : y.isLit = false) : Together x y x y where
  wa := hx
  wb := hy
  ka := fun _ => rfl
  kb := fun _ => rfl
  ia := by rintro n q m rfl; exact absurd hlx (by simp [SV.isLit])
  ib := by rintro n q m rfl; exact absurd hly (by simp [SV.isLit])

/-- The first was brought to the second; the second is no integer beside a literal integer. -/
theorem together_l {x y z : SV} (hz : z.wf) (hy : y.wf) (hk : x.isLit = false → z = x) (hi : ∀ n q m, x = .iInt n → y = .int q m → fitI q n = true → z = .int q n) (hlx : x.isLit = true) : Together x y z y where
  wa := hz
  wb := hy
  ka := hk
  kb := fun _ => rfl
  ia := hi
  ib := by rintro n q m rfl rfl; exact absurd hlx (by simp [SV.isLit])

theorem together_r {x y z : SV} (hx : x.wf) (hz : z.wf) (hk : y.isLit = false → z = y) (hi : ∀ n q m, y = .iInt n → x = .int q m → fitI q n = true → z = .int q n) (hly : y.isLit = true) : Together x y x z where
  wa := hx
  wb := hz
  ka := fun _ => rfl
  kb := hk
  ia := by rintro n q m rfl rfl; exact absurd hly (by simp [SV.isLit])
  ib := hi

set_option maxRecDepth 100000 in
set_option maxHeartbeats 1000000 in
theorem coerce_same (x y : SV) (hx : x.wf) (hy : y.wf) (u v : Value) (w : World) (hu : Rep w x u) (hv : Rep w y v) (hs : (x.tn == y.tn) = true) :
    Calls Try.prog 55 #[u, v] w (CoPost x y w) := by
  have h1 := Lib.hid hu
  have h2 := Lib.hid hv
  have ht := Lib.hid (together_same hx hy (eq_of_beq hs))
  clear hu hv hx hy
  go_enter Try.func55, Try.ntmps55
  go_wp2_with (go_at_call 59; refine (sameT_any x y u v _ h1.out h2.out).mono ?_; rw [hs]; rintro e w' ⟨rfl, rfl⟩)
  go_ret2
  exact ⟨x, y, u, v, rfl, h1.out, h2.out, ht.out, Below.refl _ _⟩

set_option maxRecDepth 100000 in
set_option maxHeartbeats 1000000 in
theorem coerce_cc (x y : SV) (hx : x.wf) (hy : y.wf) (u v : Value) (w : World) (hu : Rep w x u) (hv : Rep w y v) (hs : (x.tn == y.tn) = false) (lx : x.isLit = false) (ly : y.isLit = false) :
    Calls Try.prog 55 #[u, v] w (CoPost x y w) := by
  have h1 := Lib.hid hu
  have h2 := Lib.hid hv
  have ht := Lib.hid (together_cc hx hy lx ly)
  have s1 := shape_conc hu lx
  have s2 := shape_conc hv ly
  clear hu hv hx hy lx ly
  rcases s1 with rfl | ⟨U, p, rfl, a1, a2, a3, a4⟩ <;> rcases s2 with rfl | ⟨V, q, rfl, b1, b2, b3, b4⟩ <;>
  · go_enter Try.func55, Try.ntmps55
    go_wp2_with (go_at_call 59; refine (sameT_any x y _ _ _ h1.out h2.out).mono ?_; rw [hs]; rintro e w' ⟨rfl, rfl⟩)
    go_ret2
    exact ⟨x, y, _, _, rfl, h1.out, h2.out, ht.out, Below.refl _ _⟩

set_option maxRecDepth 100000 in
set_option maxHeartbeats 1000000 in
theorem coerce_lc (x y : SV) (hx : x.wf) (hy : y.wf) (u v : Value) (w : World) (hu : Rep w x u) (hv : Rep w y v) (hs : (x.tn == y.tn) = false) (lx : x.isLit = true) (ly : y.isLit = false) :
    Calls Try.prog 55 #[u, v] w (CoPost x y w) := by
  have h1 := Lib.hid hu
  have h2 := Lib.hid hv
  have g1 := Lib.hid hx
  have g2 := Lib.hid hy
  have s1 := shape_lit hu lx
  have s2 := shape_conc hv ly
  have l1 := Lib.hid lx
  clear hu hv hx hy lx ly
  rcases s1 with ⟨U, p, rfl, rfl | rfl | rfl | rfl⟩ <;> rcases s2 with rfl | ⟨V, q, rfl, b1, b2, b3, b4⟩ <;>
  · go_enter Try.func55, Try.ntmps55
    go_wp2_with (first | (go_at_call 59; refine (sameT_any x y _ _ _ h1.out h2.out).mono ?_; rw [hs]; rintro e w' ⟨rfl, rfl⟩) | (go_at_call 56; refine (coerce1_any x y g1.out _ _ _ h1.out h2.out).mono ?_; rintro e w1 ⟨z, r, rfl, hz, hr, hk, hi, hb⟩; have hr' := Lib.hid hr; have hk' := Lib.hid hk; have hi' := Lib.hid hi; have hz' := Lib.hid hz; clear hr hk hi hz))
    go_ret2
    exact ⟨z, y, _, _, rfl, hr'.out, h2.out.below hb, together_l hz'.out g2.out hk'.out hi'.out l1.out, hb⟩

set_option maxRecDepth 100000 in
set_option maxHeartbeats 1000000 in
theorem coerce_cl (x y : SV) (hx : x.wf) (hy : y.wf) (u v : Value) (w : World) (hu : Rep w x u) (hv : Rep w y v) (hs : (x.tn == y.tn) = false) (lx : x.isLit = false) (ly : y.isLit = true) :
    Calls Try.prog 55 #[u, v] w (CoPost x y w) := by
  have h1 := Lib.hid hu
  have h2 := Lib.hid hv
  have g1 := Lib.hid hx
  have g2 := Lib.hid hy
  have s1 := shape_conc hu lx
  have s2 := shape_lit hv ly
  have l1 := Lib.hid ly
  clear hu hv hx hy lx ly
  rcases s2 with ⟨U, p, rfl, rfl | rfl | rfl | rfl⟩ <;> rcases s1 with rfl | ⟨V, q, rfl, b1, b2, b3, b4⟩ <;>
  · go_enter Try.func55, Try.ntmps55
    go_wp2_with (first | (go_at_call 59; refine (sameT_any x y _ _ _ h1.out h2.out).mono ?_; rw [hs]; rintro e w' ⟨rfl, rfl⟩) | (go_at_call 56; refine (coerce1_any y x g2.out _ _ _ h2.out h1.out).mono ?_; rintro e w1 ⟨z, r, rfl, hz, hr, hk, hi, hb⟩; have hr' := Lib.hid hr; have hk' := Lib.hid hk; have hi' := Lib.hid hi; have hz' := Lib.hid hz; clear hr hk hi hz))
    go_ret2
    exact ⟨x, z, _, _, rfl, h1.out.below hb, hr'.out, together_r g1.out hz'.out hk'.out hi'.out l1.out, hb⟩

end Go.Proofs.Ytamekjbdpcflfaa
