/-
  laws.alike: what it lets through is of one type. PRINTED BY wip/tpl/gen_al.py.
-/
import Derived.Test.YtiijcmdfbgoafaaDoorSl2
import Derived.Test.YtiijcmdfbgoafaaDoorWo
import Derived.Test.YtiijcmdfbgoafaaDoorBw
namespace Go.Proofs.YtiijcmdfbgoafaaDoor
open Go.RowKit

/-- All of one type, which is neither bool nor blob. -/
def OneK (m : List VV) : Prop := ∃ y : VV, ∀ (j : Nat) (x : VV), m[j]? = some x → x.k.toList = y.k.toList ∧ (x.k.toList == [98, 111, 111, 108]) = false ∧ (x.k.toList == [98, 108, 111, 98]) = false

theorem alike_no (l : List VV) (A : Option Addr) (c : Nat) (most : Int) (w : World) (HA : Hid (∀ w', Below w.heap.size w w' → Calls Tryd.prog 37 #[.slice A l.length c, .int .i64 most] w' fun e w'' => e = .returned (.bool false) ∧ Below w'.heap.size w' w'')) :
    Calls Tryd.prog 25 #[.slice A l.length c, .int .i64 most] w fun e w' => ∃ b, (b = true → concL l most = true ∧ OneK (nonN l)) ∧ e = .returned (.bool b) ∧ Below w.heap.size w w' := by
  go_enter Tryd.func25, Tryd.ntmps25
  go_wp2_with (go_at_call 37; refine (HA.out _ (Below.refl _ _)).mono ?_; rintro e w1 ⟨rfl, hb1⟩)
  go_ret
  exact ⟨false, fun h => (by cases h), rfl, hb1⟩

set_option maxHeartbeats 1000000 in
theorem alike_yes (l : List VV) (A : Option Addr) (c : Nat) (most : Int) (hm : (nonN l).length ≤ 2147483647) (hc : concL l most = true) (w : World) (HA : Hid (∀ w', Below w.heap.size w w' → Calls Tryd.prog 37 #[.slice A l.length c, .int .i64 most] w' fun e w'' => e = .returned (.bool true) ∧ Below w'.heap.size w' w''))
    (HW : Hid (∀ w', Below w.heap.size w w' → Calls Tryd.prog 38 #[.slice A l.length c] w' (WoPost l w'))) :
    Calls Tryd.prog 25 #[.slice A l.length c, .int .i64 most] w fun e w' => ∃ b, (b = true → concL l most = true ∧ OneK (nonN l)) ∧ e = .returned (.bool b) ∧ Below w.heap.size w w' := by
  obtain ⟨n, hn⟩ : ∃ n, n = (nonN l).length := ⟨_, rfl⟩
  have HN := Lib.hid hn
  have HC := Lib.hid hc
  unfold WoPost at HW
  rw [← hn] at HW hm
  clear hn hc
  go_enter Tryd.func25, Tryd.ntmps25
  go_wp2_with (first | (go_at_call 37; refine (HA.out _ (Below.refl _ _)).mono ?_; rintro e w1 ⟨rfl, hb1⟩) | (go_at_call 38; refine (HW.out _ hb1).mono ?_; rintro e w2 ⟨A', c', rfl, hl2, hb2⟩; have HL := Lib.hid hl2; clear hl2; have hB2 := up_below' hb1 hb2))
  go_loopw [15] (fun i wr => ∃ k : Nat, k ≤ n ∧ i = .int .i64 k ∧ Below w2.heap.size w2 wr ∧ ∀ y, (nonN l)[0]? = some y → ∀ (j : Nat) (x : VV), j < k → (nonN l)[j]? = some x → x.k.toList = y.k.toList ∧ (x.k.toList == [98, 111, 111, 108]) = false ∧ (x.k.toList == [98, 108, 111, 98]) = false) (fun i _ => n - (intOf i).toNat)
  case atStart => exact ⟨0, by omega, rfl, Below.refl _ _, fun _ _ _ _ h => by omega⟩
  case round =>
    obtain ⟨k, hk, rfl, hb, hall⟩ := hrel
    have HB := Lib.hid hb
    have HY := Lib.hid hall
    have hsr := hb.size
    clear hall
    by_cases hlt : k < n
    · obtain ⟨x, hx'⟩ : ∃ x, (nonN l)[k]? = some x := ⟨_, List.getElem?_eq_getElem (by rw [← HN.out]; exact hlt)⟩
      obtain ⟨y, hy'⟩ : ∃ y, (nonN l)[0]? = some y := ⟨_, List.getElem?_eq_getElem (by rw [← HN.out]; omega)⟩
      have HX := Lib.hid hx'
      have HY0 := Lib.hid hy'
      obtain ⟨ad, rfl, hbl, h0, _, _, _, h4⟩ := (HL.out.below hb) k x hx'
      obtain ⟨ad2, had, hbl2, g0, _, _, _, _⟩ := (HL.out.below hb) 0 y hy'
      obtain rfl : ad = ad2 := Option.some.inj had
      have e0 : ad.add (0 * 5) = ad := by simp [Addr.add]
      rw [e0] at hbl2 g0
      have p0 : ∀ q : BW wr, q.w.cell? (ad.add (k * 5)) = some (.string x.k) := fun q => (q.h.cell hbl).trans h0
      have p4 : ∀ q : BW wr, q.w.cell? ⟨(ad.add (k * 5)).block, (ad.add (k * 5)).off + 4, none⟩ = some (.string x.s) := fun q => (q.h.cell (by exact hbl)).trans h4
      have r0 : ∀ q : BW wr, q.w.cell? ad = some (.string y.k) := fun q => (q.h.cell hbl2).trans g0
      clear hx' hy' hb had e0
      cases c1 : (x.k.toList == y.k.toList) with
      | false =>
          go_wp2
          refine wp_region_bw (by kernel_rfl) (by kernel_rfl) ?_
          repeat (go_big_quiet_step ((first | fail)))
          refine wpQuiet_nil ?_
          intro _ hw'
          obtain ⟨pq, hw''⟩ := hw'
          subst hw''
          go_wp2
          go_ret
          exact ⟨false, fun h => (by cases h), rfl, up_below' (up_below' hB2 HB.out) pq.h⟩
      | true =>
        cases c2 : (x.k.toList == [98, 111, 111, 108]) with
        | true =>
          go_wp2
          refine wp_region_bw (by kernel_rfl) (by kernel_rfl) ?_
          repeat (go_big_quiet_step ((first | fail)))
          refine wpQuiet_nil ?_
          intro _ hw'
          obtain ⟨pq, hw''⟩ := hw'
          subst hw''
          go_wp2
          go_ret
          exact ⟨false, fun h => (by cases h), rfl, up_below' (up_below' hB2 HB.out) pq.h⟩
        | false =>
          cases c3 : (x.k.toList == [98, 108, 111, 98]) with
          | true =>
            go_wp2
            refine wp_region_bw (by kernel_rfl) (by kernel_rfl) ?_
            repeat (go_big_quiet_step ((first | fail)))
            refine wpQuiet_nil ?_
            intro _ hw'
            obtain ⟨pq, hw''⟩ := hw'
            subst hw''
            go_wp2
            go_ret
            exact ⟨false, fun h => (by cases h), rfl, up_below' (up_below' hB2 HB.out) pq.h⟩
          | false =>
            by_cases c4 : (300 : Int) < x.s.size
            · go_wp2
              refine wp_region_bw (by kernel_rfl) (by kernel_rfl) ?_
              repeat (go_big_quiet_step ((first | fail)))
              refine wpQuiet_nil ?_
              intro _ hw'
              obtain ⟨pq, hw''⟩ := hw'
              subst hw''
              go_wp2
              go_ret
              exact ⟨false, fun h => (by cases h), rfl, up_below' (up_below' hB2 HB.out) pq.h⟩
            · have HK := Lib.hid (And.intro (eq_of_beq c1) (And.intro c2 c3))
              go_wp2
              refine wp_region_bw (by kernel_rfl) (by kernel_rfl) ?_
              repeat (go_big_quiet_step ((first | fail)))
              refine wpQuiet_nil ?_
              intro _ hw'
              obtain ⟨pq, hw''⟩ := hw'
              subst hw''
              go_wp2
              refine ⟨⟨k + 1, by omega, by push_cast; rfl, HB.out.trans (pq.h.mono hsr), fun y' hy j z hj hz => ?_⟩, by simp [intOf]; omega⟩
              rcases Nat.lt_or_ge j k with h | h
              · exact HY.out y' hy j z h hz
              · obtain rfl : j = k := by omega
                obtain rfl : z = x := Option.some.inj (hz.symm.trans HX.out)
                obtain rfl : y' = y := Option.some.inj (hy.symm.trans HY0.out)
                exact HK.out
    · have hke : k = n := by omega
      subst hke
      go_wp2
      go_ret
      refine ⟨true, fun _ => ⟨HC.out, ?_⟩, rfl, up_below' hB2 HB.out⟩
      cases hy : (nonN l)[0]? with
      | none =>
        refine ⟨⟨⟨#[]⟩, 0, 0, 0, ⟨#[]⟩⟩, fun j x hx => ?_⟩
        have h0 : (nonN l).length ≤ 0 := by simpa using hy
        rw [List.getElem?_eq_none (by omega)] at hx
        cases hx
      | some y => exact ⟨y, fun j x hx => HY.out y hy j x (by rw [HN.out]; exact (List.getElem?_eq_some_iff.1 hx).1) hx⟩

end Go.Proofs.YtiijcmdfbgoafaaDoor
