/-
  ql.collate, impl.CollateRows, either way round, where the reference says the order of two lists.
-/
import Derived.Test.YtiijcmdfbgoafaaSc7
namespace Go.Proofs.Ytiijcmdfbgoafaa
open Go.RowKit

def GoodL (l : List VV) : Prop := ∀ (j : Nat) (x : VV), l[j]? = some x → x.good

set_option maxHeartbeats 1000000 in
theorem collS_some (l m : List VV) (A B : Option Addr) (n c d : Nat) (vs us : List Value) (hn : 0 < n) (hl : l.length = n) (hm : m.length = n) (hmax : n ≤ 2147483647) (w : World)
    (hA : Reads w w.heap.size 1 A n vs) (hB : Reads w w.heap.size 1 B n us) (hV : RepK w l n vs) (hU : RepK w m n us)
    (hcl : GoodL l) (hcm : GoodL m) (hs : (scRows l m).2 = true) (h3 : ∀ x y : VV, (scVal x y).2 = true → (scVal x y).1 = -1 ∨ (scVal x y).1 = 0 ∨ (scVal x y).1 = 1) :
    Calls Try.prog 46 #[.slice A n c, .slice B n d] w (ColP (scRows l m).1 w) := by
  have HA := Lib.hid hA
  have HB := Lib.hid hB
  have HV := Lib.hid hV
  have HU := Lib.hid hU
  have HL := Lib.hid hl
  have HM := Lib.hid hm
  have HCL := Lib.hid hcl
  have HCM := Lib.hid hcm
  have HS := Lib.hid hs
  have H3 := Lib.hid h3
  clear hA hB hV hU hl hm hcl hcm hs h3
  have hn0 : ((n : Int) == 0) = false := by simp; omega
  have hn1 : ((n : Int) != 0) = true := by simp; omega
  go_enter Try.func46, Try.ntmps46
  go_wp2
  go_loopw [4, 44] (fun r i wr => ∃ k : Nat, k ≤ n ∧ r = .int .i64 1 ∧ i = .int .i64 k ∧ Below w.heap.size w wr ∧ ∀ (j : Nat) (x y : VV), j < k → l[j]? = some x → m[j]? = some y → scVal x y = (0, true)) (fun _ i _ => n - (intOf i).toNat)
  case atStart => exact ⟨0, by omega, rfl, rfl, Below.refl _ _, fun _ _ _ h => by omega⟩
  case round =>
    obtain ⟨k, hk, rfl, rfl, hb, hall⟩ := hrel
    have HZ := Lib.hid hall
    have HBw := Lib.hid hb
    have hs := hb.size
    clear hall
    by_cases hlt : k < n
    · obtain ⟨x, hx⟩ : ∃ x, l[k]? = some x := ⟨_, List.getElem?_eq_getElem (by rw [HL.out]; exact hlt)⟩
      obtain ⟨y, hy⟩ : ∃ y, m[k]? = some y := ⟨_, List.getElem?_eq_getElem (by rw [HM.out]; exact hlt)⟩
      obtain ⟨ad, u, rfl, hbu, hu, hcu⟩ := (HA.out.below hb).at_ hlt
      obtain ⟨bd, v, rfl, hbv, hv, hcv⟩ := (HB.out.below hb).at_ hlt
      obtain ⟨x', hi1, hr1⟩ := (HV.out.below hb).2 k x u hx hu
      obtain ⟨y', hi2, hr2⟩ := (HU.out.below hb).2 k y v hy hv
      have hE := fun h => scRows_at k l m x y HZ.out hx hy h
      have hsaid : (scVal x y).2 = true := by
        cases e : (scVal x y).2 with
        | true => rfl
        | false =>
          have := hE (fun h => by rw [h] at e; cases e)
          rw [e] at this
          simp only [if_true] at this
          have h2 := HS.out
          rw [this] at h2
          cases h2
      have HC := Lib.hid (fun W (hW : Below wr.heap.size wr W) => col1_said (HCL.out k x hx) (HCM.out k y hy) hi1 hi2 (hr1.below hW) (hr2.below hW) hsaid)
      have HX := Lib.hid hx
      have HY := Lib.hid hy
      have HT := Lib.hid (H3.out x y hsaid)
      have HE := Lib.hid hE
      clear hx hy hu hv hi1 hi2 hr1 hr2 hb hE
      obtain ⟨cc, hcc⟩ : ∃ cc, cc = (scVal x y).1 := ⟨_, rfl⟩
      rw [← hcc] at HC HT
      have HCC := Lib.hid hcc
      have HSD := Lib.hid hsaid
      clear hcc hsaid
      cases hz : (cc == 0) with
      | true =>
        obtain rfl : cc = 0 := by simpa using hz
        go_wp2_with (go_at_call 35; refine (HC.out _ (Below.refl _ _)).mono ?_; rintro e w1 ⟨rfl, hb1⟩)
        refine ⟨⟨k + 1, by omega, rfl, by push_cast; rfl, up_below' HBw.out hb1, fun j a b hj ha hb => ?_⟩, by simp [intOf]; omega⟩
        rcases Nat.lt_or_ge j k with h | h
        · exact HZ.out j a b h ha hb
        · obtain rfl : j = k := by omega
          obtain rfl : a = x := Option.some.inj (ha.symm.trans HX.out)
          obtain rfl : b = y := Option.some.inj (hb.symm.trans HY.out)
          exact Prod.ext HCC.out.symm HSD.out
      | false =>
        have hz2 : (cc != 0) = true := by simpa using hz
        have hv : (scRows l m).1 = cc := by
          rw [HE.out (fun h => by have := HCC.out; rw [h] at this; rw [this] at hz; cases hz), HSD.out, HCC.out]
          rfl
        have HVV := Lib.hid hv
        clear hv
        rcases HT.out with rfl | rfl | rfl
        · go_wp2_with (go_at_call 35; refine (HC.out _ (Below.refl _ _)).mono ?_; rintro e w1 ⟨rfl, hb1⟩)
          go_ret
          exact ⟨by rw [HVV.out]; rfl, up_below' HBw.out hb1⟩
        · cases hz
        · go_wp2_with (go_at_call 35; refine (HC.out _ (Below.refl _ _)).mono ?_; rintro e w1 ⟨rfl, hb1⟩)
          go_ret
          exact ⟨by rw [HVV.out]; rfl, up_below' HBw.out hb1⟩
    · have hke : k = n := by omega
      subst hke
      have he := scRows_end l m (fun j x y hx hy => HZ.out j x y (by rw [← HL.out]; exact (List.getElem?_eq_some_iff.1 hx).1) hx hy)
      have HVV := Lib.hid he
      clear he
      go_wp2
      go_ret
      exact ⟨by rw [HVV.out]; rfl, hb⟩

theorem ord2_three (l g : Bool) : ord2 l g = -1 ∨ ord2 l g = 0 ∨ ord2 l g = 1 := by cases l <;> cases g <;> decide
theorem bytesOrd_three (l m : List UInt8) : bytesOrd l m = -1 ∨ bytesOrd l m = 0 ∨ bytesOrd l m = 1 := by
  unfold bytesOrd three
  split
  · exact .inl rfl
  · split
    · exact .inr (.inl rfl)
    · exact .inr (.inr rfl)
theorem scVal_three (x y : VV) : (scVal x y).1 = -1 ∨ (scVal x y).1 = 0 ∨ (scVal x y).1 = 1 := by
  unfold scVal
  split
  · split
    · exact .inr (.inl rfl)
    · exact .inl rfl
  · split
    · exact .inr (.inr rfl)
    · split
      · show scCmp x y = _ ∨ _
        unfold scCmp
        split
        · exact ord2_three _ _
        · split
          · exact ord2_three _ _
          · split
            · exact ord2_three _ _
            · exact bytesOrd_three _ _
      · exact .inr (.inl rfl)

theorem scRows_three : ∀ (l m : List VV), (scRows l m).1 = -1 ∨ (scRows l m).1 = 0 ∨ (scRows l m).1 = 1
  | [], _ => .inr (.inl rfl)
  | _ :: _, [] => .inr (.inl rfl)
  | x :: l, y :: m => by
    rw [scRows]
    split
    · exact .inr (.inl rfl)
    · split
      · exact scRows_three l m
      · exact scVal_three x y

theorem collS_any (l m : List VV) (hlm : l.length = m.length) (hm : l.length ≤ 2147483647) (hl : GoodL l) (hc : GoodL m) (hs : (scRows l m).2 = true) (u v : Value) (w : World) (hu : Ins w l u) (hv : Ins w m v) :
    Calls Try.prog 46 #[u, v] w (ColP (scRows l m).1 w) := by
  obtain ⟨A, c, vs, rfl, h1, h2⟩ := hu
  obtain ⟨B, d, us, rfl, h3, h4⟩ := hv
  rw [← hlm] at h3 h4 ⊢
  rcases Nat.eq_zero_or_pos l.length with h0 | h0
  · have e : (scRows l m).1 = 0 := by
      rw [List.eq_nil_of_length_eq_zero h0]
      rfl
    rw [e, h0]
    exact collate_none A B c d w
  · exact collS_some l m A B l.length c d vs us h0 rfl hlm.symm hm w h1 h3 h2 h4 hl hc hs (fun x y _ => scVal_three x y)

theorem insG_v (l : List VV) (A : Option Addr) (c : Nat) (w : World) (hl : LAt w A l) (hg : GoodL l) (hm : l.length ≤ 2147483647) : Calls Try.prog 30 #[.slice A l.length c] w (InsP l w) :=
  (ins_any l A c w hl hg hm).mono fun _ _ ⟨A', c', vs, he, h1, h2, hb⟩ => ⟨_, he, ⟨A', c', vs, rfl, h1, h2⟩, hb⟩

set_option maxHeartbeats 400000 in
theorem zzDesc_any (c : Int) (hc : c = -1 ∨ c = 0 ∨ c = 1) (u v : Value) (w : World) (H : Hid (Calls Try.prog 46 #[u, v] w (ColP c w))) : Calls Try.prog 29 #[u, v] w (ColP (-c) w) := by
  have HD : Hid (Calls Try.prog 45 #[u, v] w (ColP (-c) w)) := by
    rcases hc with rfl | rfl | rfl <;>
    · go_enter Try.func45, Try.ntmps45
      go_wp2_with (go_at_call 46; refine H.out.mono ?_; rintro e w1 ⟨rfl, hb1⟩)
      go_ret
      exact ⟨rfl, hb1⟩
  clear H hc
  go_enter Try.func29, Try.ntmps29
  go_wp2_with (go_at_call 45; refine HD.out.mono ?_; rintro e w1 ⟨rfl, hb1⟩)
  go_ret
  exact ⟨rfl, hb1⟩

set_option maxHeartbeats 1000000 in
theorem implS_any (l m : List VV) (A B : Option Addr) (c d : Nat) (hlm : l.length = m.length) (hm : l.length ≤ 2147483647) (hl : GoodL l) (hc : GoodL m) (hs : (scRows l m).2 = true) (w : World) (hA : LAt w A l) (hB : LAt w B m) :
    Calls Try.prog 18 #[.slice A l.length c, .slice B m.length d, .bool false] w (ColP (scRows l m).1 w) := by
  have HA := Lib.hid (fun w' (h : Below w.heap.size w w') => insG_v l A c w' (hA.below h) hl hm)
  have HB := Lib.hid (fun w' (h : Below w.heap.size w w') => insG_v m B d w' (hB.below h) hc (by rw [← hlm]; exact hm))
  have HC := Lib.hid (fun w' u v hu hv => zzCollate_any _ u v w' (collS_any l m hlm hm hl hc hs u v w' hu hv))
  clear hA hB hlm hm hl hc hs
  go_enter Try.func18, Try.ntmps18
  go_wp2_with (first
    | (go_at_call_of 30 (Value.slice A l.length c); refine (HA.out _ (Below.refl _ _)).mono ?_; rintro e w1 ⟨v1, rfl, hi1, hb1⟩; have HI1 := Lib.hid hi1; clear hi1)
    | (go_at_call 30; refine (HB.out _ hb1).mono ?_; rintro e w2 ⟨v2, rfl, hi2, hb2⟩; have HI2 := Lib.hid hi2; clear hi2)
    | (go_at_call 31; refine (HC.out _ _ _ (HI1.out.below hb2) HI2.out).mono ?_; rintro e w3 ⟨rfl, hb3⟩))
  go_ret
  exact ⟨rfl, up_below' (up_below' hb1 hb2) hb3⟩

set_option maxHeartbeats 1000000 in
theorem implD_any (l m : List VV) (A B : Option Addr) (c d : Nat) (hlm : l.length = m.length) (hm : l.length ≤ 2147483647) (hl : GoodL l) (hc : GoodL m) (hs : (scRows l m).2 = true) (w : World) (hA : LAt w A l) (hB : LAt w B m) :
    Calls Try.prog 18 #[.slice A l.length c, .slice B m.length d, .bool true] w (ColP (-(scRows l m).1) w) := by
  have HA := Lib.hid (fun w' (h : Below w.heap.size w w') => insG_v l A c w' (hA.below h) hl hm)
  have HB := Lib.hid (fun w' (h : Below w.heap.size w w') => insG_v m B d w' (hB.below h) hc (by rw [← hlm]; exact hm))
  have HC := Lib.hid (fun w' u v hu hv => zzDesc_any _ (scRows_three l m) u v w' (collS_any l m hlm hm hl hc hs u v w' hu hv))
  clear hA hB hlm hm hl hc hs
  go_enter Try.func18, Try.ntmps18
  go_wp2_with (first
    | (go_at_call_of 30 (Value.slice A l.length c); refine (HA.out _ (Below.refl _ _)).mono ?_; rintro e w1 ⟨v1, rfl, hi1, hb1⟩; have HI1 := Lib.hid hi1; clear hi1)
    | (go_at_call 30; refine (HB.out _ hb1).mono ?_; rintro e w2 ⟨v2, rfl, hi2, hb2⟩; have HI2 := Lib.hid hi2; clear hi2)
    | (go_at_call 29; refine (HC.out _ _ _ (HI1.out.below hb2) HI2.out).mono ?_; rintro e w3 ⟨rfl, hb3⟩))
  go_ret
  exact ⟨rfl, up_below' (up_below' hb1 hb2) hb3⟩

end Go.Proofs.Ytiijcmdfbgoafaa
