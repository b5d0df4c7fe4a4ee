/-
  spec.CollateRows of two lists of as many values; laws.allValid.
-/
import Derived.Test.YtiijcmdfbgoafaaSc5
import Derived.Test.YtiijcmdfbgoafaaBw
import Derived.BigQuiet
namespace Go.Proofs.Ytiijcmdfbgoafaa
open Go.RowKit

set_option maxHeartbeats 1000000 in
theorem sRows_any (l m : List VV) (A B : Option Addr) (c d : Nat) (hlm : (m.length : Int) = l.length) (hmax : l.length ≤ 2147483647) (hsl : ∀ (j : Nat) (x : VV), l[j]? = some x → x.s.size ≤ 65536) (hsm : ∀ (j : Nat) (x : VV), m[j]? = some x → x.s.size ≤ 65536) (w : World) (hA : LAt w A l) (hB : LAt w B m) :
    Calls Try.prog 17 #[.slice A l.length c, .slice B m.length d] w fun e w' => e = .returned (.tuple #[.int .i64 (scRows l m).1, .bool (scRows l m).2]) ∧ Below w.heap.size w w' := by
  obtain ⟨n, hn⟩ : ∃ n, n = l.length := ⟨_, rfl⟩
  have hn2 : m.length = n := by omega
  rw [hn2, ← hn]
  rw [← hn] at hmax
  have HA := Lib.hid hA
  have HB := Lib.hid hB
  have HL := Lib.hid hn
  have HM := Lib.hid hn2
  have HC := Lib.hid (fun (x y : VV) hx hy w => sCol_any x y hx hy w)
  have HSL := Lib.hid hsl
  have HSM := Lib.hid hsm
  clear hA hB hn hn2 hlm hsl hsm
  go_enter Try.func17, Try.ntmps17
  go_wp2
  go_loopw [6] (fun i wr => ∃ k : Nat, k ≤ n ∧ i = .int .i64 k ∧ Below w.heap.size w wr ∧ ∀ (j : Nat) (x y : VV), j < k → l[j]? = some x → m[j]? = some y → scVal x y = (0, true)) (fun i _ => n - (intOf i).toNat)
  case atStart => exact ⟨0, by omega, rfl, Below.refl _ _, fun _ _ _ h => by omega⟩
  case round =>
    obtain ⟨k, hk, rfl, hb, hall⟩ := hrel
    have HZ := Lib.hid hall
    have HBw := Lib.hid hb
    clear hall
    by_cases hlt : k < n
    · obtain ⟨x, hx⟩ : ∃ x, l[k]? = some x := ⟨_, List.getElem?_eq_getElem (by rw [← HL.out]; exact hlt)⟩
      obtain ⟨y, hy⟩ : ∃ y, m[k]? = some y := ⟨_, List.getElem?_eq_getElem (by rw [HM.out]; exact hlt)⟩
      obtain ⟨ad, rfl, hbl, h0, h1, h2, h3, h4⟩ := (HA.out.below hb) k x hx
      obtain ⟨bd, rfl, hbk, g0, g1, g2, g3, g4⟩ := (HB.out.below hb) k y hy
      have HV := Lib.hid (HC.out x y (HSL.out k x hx) (HSM.out k y hy))
      have HX := Lib.hid hx
      have HY := Lib.hid hy
      have HE := Lib.hid (fun h => scRows_at k l m x y HZ.out hx hy h)
      clear hx hy hb
      have i1 : (k : Int) < (n : Int) := by omega
      have i2 : (0 : Int) ≤ (k : Int) := by omega
      have p0 : ∀ p : BW wr, p.w.cell? (ad.add (k * 5)) = some (.string x.k) := fun p => (p.h.cell hbl).trans h0
      have q0 : ∀ p : BW wr, p.w.cell? (bd.add (k * 5)) = some (.string y.k) := fun p => (p.h.cell hbk).trans g0
      obtain ⟨cv, hcv⟩ : ∃ cv, cv = scVal x y := ⟨_, rfl⟩
      rw [← hcv] at HV HE
      obtain ⟨c1, c2⟩ := cv
      have HCC := Lib.hid hcv
      clear hcv
      cases c2 with
      | false =>
        have hv := HE.out (by simp)
        have HVV := Lib.hid hv
        clear hv
        go_wp2
        refine wp_region_bw (by kernel_rfl) (by kernel_rfl) ?_
        repeat (go_big_quiet_step ((go_at_call 28; exact bw_of (HV.out _))))
        refine wpQuiet_nil ?_
        intro _ hw'
        obtain ⟨pq, hw''⟩ := hw'
        subst hw''
        have hbq := pq.h
        go_wp2
        go_ret2
        exact ⟨by rw [HVV.out]; rfl, up_below' HBw.out hbq⟩
      | true =>
        cases hz : (c1 != 0) with
        | true =>
          have hv := HE.out (fun h => by rw [Prod.mk.injEq] at h; rw [h.1] at hz; cases hz)
          have HVV := Lib.hid hv
          clear hv
          go_wp2
          refine wp_region_bw (by kernel_rfl) (by kernel_rfl) ?_
          repeat (go_big_quiet_step ((go_at_call 28; exact bw_of (HV.out _))))
          refine wpQuiet_nil ?_
          intro _ hw'
          obtain ⟨pq, hw''⟩ := hw'
          subst hw''
          have hbq := pq.h
          go_wp2
          go_ret2
          exact ⟨by rw [HVV.out]; rfl, up_below' HBw.out hbq⟩
        | false =>
          obtain rfl : c1 = 0 := by simpa using hz
          go_wp2
          refine wp_region_bw (by kernel_rfl) (by kernel_rfl) ?_
          repeat (go_big_quiet_step ((go_at_call 28; exact bw_of (HV.out _))))
          refine wpQuiet_nil ?_
          intro _ hw'
          obtain ⟨pq, hw''⟩ := hw'
          subst hw''
          have hbq := pq.h
          go_wp2
          refine ⟨⟨k + 1, by omega, by push_cast; rfl, up_below' HBw.out hbq, fun j a b hj ha hb => ?_⟩, by simp [intOf]; omega⟩
          rcases Nat.lt_or_ge j k with h | h
          · exact HZ.out j a b h ha hb
          · obtain rfl : j = k := by omega
            obtain rfl : a = x := Option.some.inj (ha.symm.trans HX.out)
            obtain rfl : b = y := Option.some.inj (hb.symm.trans HY.out)
            exact HCC.out.symm
    · have hke : k = n := by omega
      subst hke
      have he := scRows_end l m (fun j x y hx hy => HZ.out j x y (by rw [HL.out]; exact (List.getElem?_eq_some_iff.1 hx).1) hx hy)
      have HVV := Lib.hid he
      clear he
      go_wp2
      go_ret2
      exact ⟨by rw [HVV.out]; rfl, HBw.out⟩

def VV.val2 (x : VV) : Bool := validB (Kd.of x.k.toList) x.n x.u x.f x.s && decide (x.s.size ≤ 2000)

set_option maxHeartbeats 1000000 in
theorem allValid_any (l : List VV) (A : Option Addr) (c : Nat) (w : World) (hl : LAt w A l) (hm : l.length ≤ 2147483647) :
    Calls Try.prog 16 #[.slice A l.length c] w fun e w' => e = .returned (.bool (l.all VV.val2)) ∧ Below w.heap.size w w' := by
  obtain ⟨len, hlen⟩ : ∃ len, len = l.length := ⟨_, rfl⟩
  have HL := Lib.hid hl
  have HN := Lib.hid hlen
  rw [← hlen] at hm ⊢
  have HE : Hid (∀ (k : Nat) (x : VV), l[k]? = some x → x.val2 = false → l.all VV.val2 = false) := fun k x hx hf => by
    rw [List.all_eq_false]
    exact ⟨x, List.mem_of_getElem? hx, by rw [hf]; decide⟩
  have HY : Hid ((∀ (j : Nat) (x : VV), j < len → l[j]? = some x → x.val2 = true) → l.all VV.val2 = true) := fun h2 => by
    rw [List.all_eq_true]
    intro x hx
    obtain ⟨j, hj, rfl⟩ := List.getElem_of_mem hx
    exact h2 j _ (by omega) (List.getElem?_eq_getElem hj)
  clear hl hlen
  have HF := Lib.hid (fun (x : VV) w => valid_any x.k x.n x.u x.f x.s w)
  go_enter Try.func16, Try.ntmps16
  go_wp2
  go_loopw [6] (fun i wr => ∃ k : Nat, k ≤ len ∧ i = .int .i64 k ∧ Below w.heap.size w wr ∧ ∀ (j : Nat) (x : VV), j < k → l[j]? = some x → x.val2 = true) (fun i _ => len - (intOf i).toNat)
  case atStart => exact ⟨0, by omega, rfl, Below.refl _ _, fun _ _ h => by omega⟩
  case round =>
    obtain ⟨k, hk, rfl, hb, hall⟩ := hrel
    have HA := Lib.hid hall
    have HBw := Lib.hid hb
    clear hall
    by_cases hlt : k < len
    · obtain ⟨x, hx'⟩ : ∃ x, l[k]? = some x := ⟨_, List.getElem?_eq_getElem (by rw [← HN.out]; exact hlt)⟩
      have HX := Lib.hid hx'
      obtain ⟨ad, rfl, hbl, h0, h1, h2, h3, h4⟩ := (HL.out.below hb) k x hx'
      have HW := Lib.hid (HF.out x)
      clear hx' hb
      cases hv : validB (Kd.of x.k.toList) x.n x.u x.f x.s with
      | false =>
        have HV := Lib.hid hv
        rw [hv] at HW
        clear hv
        go_wp2_with (go_at_call 23; refine (HW.out _).mono ?_; rintro e w1 ⟨rfl, hb1⟩)
        go_ret
        exact ⟨by rw [HE.out k x HX.out (by unfold VV.val2; rw [HV.out]; rfl)]; rfl, up_below' HBw.out hb1⟩
      | true =>
        have HV := Lib.hid hv
        rw [hv] at HW
        clear hv
        by_cases hsz : x.s.size ≤ 2000
        · have hsz2 : ¬ (2000 : Int) < (x.s.size : Int) := by omega
          go_wp2_with (go_at_call 23; refine (HW.out _).mono ?_; rintro e w1 ⟨rfl, hb1⟩; obtain ⟨hc1, hf1⟩ := bcell hb1; have m4 := (hc1 _ _ hbl).trans h4)
          refine ⟨⟨k + 1, by omega, by push_cast; rfl, up_below' HBw.out hb1, fun j y hj hy => ?_⟩, by simp [intOf]; omega⟩
          rcases Nat.lt_or_ge j k with h | h
          · exact HA.out j y h hy
          · obtain rfl : j = k := by omega
            obtain rfl : y = x := Option.some.inj (hy.symm.trans HX.out)
            unfold VV.val2
            rw [HV.out, decide_eq_true hsz]
            rfl
        · have hsz2 : (2000 : Int) < (x.s.size : Int) := by omega
          go_wp2_with (go_at_call 23; refine (HW.out _).mono ?_; rintro e w1 ⟨rfl, hb1⟩; obtain ⟨hc1, hf1⟩ := bcell hb1; have m4 := (hc1 _ _ hbl).trans h4)
          go_ret
          exact ⟨by rw [HE.out k x HX.out (by unfold VV.val2; rw [HV.out, decide_eq_false hsz]; rfl)]; rfl, up_below' HBw.out hb1⟩
    · have hke : k = len := by omega
      subst hke
      go_wp2
      go_ret
      exact ⟨by rw [HY.out HA.out]; rfl, HBw.out⟩

end Go.Proofs.Ytiijcmdfbgoafaa
