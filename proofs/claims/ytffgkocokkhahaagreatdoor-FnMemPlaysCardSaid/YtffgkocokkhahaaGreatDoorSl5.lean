/-
  ql.collate of two lists of as many values, each of a type and a number.
-/
import Derived.Test.YtffgkocokkhahaaGreatDoorSl4
import Derived.Test.YtffgkocokkhahaaGreatDoorSl2
import Derived.Test.YtffgkocokkhahaaGreatDoorCol
import Derived.Test.YtffgkocokkhahaaGreatDoorConc
import Derived.Test.YtffgkocokkhahaaGreatDoorCol3
namespace Go.Proofs.YtffgkocokkhahaaGreatDoor
open Go.RowKit

def VV.sv (x : VV) : SV := toSV (Kd.of x.k.toList) x.n x.u x.f x.s

/-- The first order that is found. -/
def collV : List VV → List VV → Int
  | x :: l, y :: m => if x.sv.coll y.sv = 0 then collV l m else x.sv.coll y.sv
  | _, _ => 0

theorem collV_at : ∀ (k : Nat) (l m : List VV) (x y : VV), (∀ (j : Nat) (x y : VV), j < k → l[j]? = some x → m[j]? = some y → x.sv.coll y.sv = 0) → l[k]? = some x → m[k]? = some y → x.sv.coll y.sv ≠ 0 → collV l m = x.sv.coll y.sv
  | _, [], _, _, _, _, hx, _, _ => by simp at hx
  | _, _ :: _, [], _, _, _, _, hy, _ => by simp at hy
  | 0, a :: l, b :: m, x, y, _, hx, hy, hne => by
    obtain rfl : a = x := by simpa using hx
    obtain rfl : b = y := by simpa using hy
    rw [collV, if_neg hne]
  | k + 1, a :: l, b :: m, x, y, hz, hx, hy, hne => by
    rw [collV, if_pos (hz 0 a b (by omega) rfl rfl)]
    exact collV_at k l m x y (fun j x y hj hx hy => hz (j + 1) x y (by omega) (by simpa using hx) (by simpa using hy)) (by simpa using hx) (by simpa using hy) hne

theorem collV_end : ∀ (l m : List VV), (∀ (j : Nat) (x y : VV), l[j]? = some x → m[j]? = some y → x.sv.coll y.sv = 0) → collV l m = 0
  | [], _, _ => rfl
  | _ :: _, [], _ => rfl
  | a :: l, b :: m, hz => by
    rw [collV, if_pos (hz 0 a b rfl rfl)]
    exact collV_end l m (fun j x y hx hy => hz (j + 1) x y (by simpa using hx) (by simpa using hy))

theorem rep_conc {w : World} {x : VV} {y : SV} {v : Value} (hc : x.conc = true) (hi : x.is y) (h : Rep w y v) : Rep w x.sv v ∧ x.sv.plain := by
  obtain ⟨h1, h2⟩ := conc_sv hc
  obtain rfl := h1 y hi
  exact ⟨h, h2⟩

set_option maxHeartbeats 1000000 in
theorem collate_none (A B : Option Addr) (c d : Nat) (w : World) : Calls Tryz.prog 96 #[.slice A 0 c, .slice B 0 d] w (ColP 0 w) := by
  go_enter Tryz.func96, Tryz.ntmps96
  go_wp2
  go_ret
  exact ⟨rfl, Below.refl _ _⟩

set_option maxHeartbeats 1000000 in
theorem collate_some (l m : List VV) (A B : Option Addr) (n c d : Nat) (vs us : List Value) (hn : 0 < n) (hl : l.length = n) (hm : m.length = n) (hmax : n ≤ 2147483647) (w : World)
    (hA : Reads w w.heap.size 1 A n vs) (hB : Reads w w.heap.size 1 B n us) (hV : RepK w l n vs) (hU : RepK w m n us)
    (hcl : ∀ (j : Nat) (x : VV), l[j]? = some x → x.conc = true) (hcm : ∀ (j : Nat) (x : VV), m[j]? = some x → x.conc = true) :
    Calls Tryz.prog 96 #[.slice A n c, .slice B n d] w (ColP (collV l m) w) := by
  have HA := Lib.hid hA
  have HB := Lib.hid hB
  have HV := Lib.hid hV
  have HU := Lib.hid hU
  have HL := Lib.hid hl
  have HM := Lib.hid hm
  have HCL := Lib.hid hcl
  have HCM := Lib.hid hcm
  clear hA hB hV hU hl hm hcl hcm
  have hn0 : ((n : Int) == 0) = false := by simp; omega
  have hn1 : ((n : Int) != 0) = true := by simp; omega
  go_enter Tryz.func96, Tryz.ntmps96
  go_wp2
  go_loopw [4, 44] (fun r i wr => ∃ k : Nat, k ≤ n ∧ r = .int .i64 1 ∧ i = .int .i64 k ∧ Below w.heap.size w wr ∧ ∀ (j : Nat) (x y : VV), j < k → l[j]? = some x → m[j]? = some y → x.sv.coll y.sv = 0) (fun _ i _ => n - (intOf i).toNat)
  case atStart => exact ⟨0, by omega, rfl, rfl, Below.refl _ _, fun _ _ _ h => by omega⟩
  case round =>
    obtain ⟨k, hk, rfl, rfl, hb, hall⟩ := hrel
    have HZ := Lib.hid hall
    have HBw := Lib.hid hb
    have hs := hb.size
    clear hall
    by_cases hlt : k < n
    · obtain ⟨x, hx⟩ : ∃ x, l[k]? = some x := ⟨_, List.getElem?_eq_getElem (by rw [HL.out]; exact hlt)⟩
      obtain ⟨y, hy⟩ : ∃ y, m[k]? = some y := ⟨_, List.getElem?_eq_getElem (by rw [HM.out]; exact hlt)⟩
      obtain ⟨ad, u, rfl, hbu, hu, hcu⟩ := (HA.out.below hb).at_ hlt
      obtain ⟨bd, v, rfl, hbv, hv, hcv⟩ := (HB.out.below hb).at_ hlt
      obtain ⟨x', hi1, hr1⟩ := (HV.out.below hb).2 k x u hx hu
      obtain ⟨y', hi2, hr2⟩ := (HU.out.below hb).2 k y v hy hv
      obtain ⟨hr1, hp1⟩ := rep_conc (HCL.out k x hx) hi1 hr1
      obtain ⟨hr2, hp2⟩ := rep_conc (HCM.out k y hy) hi2 hr2
      have HC := Lib.hid (fun W (hW : Below wr.heap.size wr W) => coll1_any x.sv y.sv hp1 hp2 u v W (hr1.below hW) (hr2.below hW))
      have HX := Lib.hid hx
      have HY := Lib.hid hy
      have HT := Lib.hid (coll_three x.sv y.sv hp1 hp2)
      have HE := Lib.hid (fun h => collV_at k l m x y HZ.out hx hy h)
      clear hx hy hu hv hi1 hi2 hr1 hr2 hp1 hp2 hb
      obtain ⟨cc, hcc⟩ : ∃ cc, cc = x.sv.coll y.sv := ⟨_, rfl⟩
      rw [← hcc] at HC HT HE
      have HCC := Lib.hid hcc
      clear hcc
      cases hz : (cc == 0) with
      | true =>
        obtain rfl : cc = 0 := by simpa using hz
        go_wp2_with (go_at_call 119; refine (HC.out _ (Below.refl _ _)).mono ?_; rintro e w1 ⟨rfl, hb1⟩)
        refine ⟨⟨k + 1, by omega, rfl, by push_cast; rfl, up_below' HBw.out hb1, fun j a b hj ha hb => ?_⟩, by simp [intOf]; omega⟩
        rcases Nat.lt_or_ge j k with h | h
        · exact HZ.out j a b h ha hb
        · obtain rfl : j = k := by omega
          obtain rfl : a = x := Option.some.inj (ha.symm.trans HX.out)
          obtain rfl : b = y := Option.some.inj (hb.symm.trans HY.out)
          exact HCC.out.symm
      | false =>
        have hz2 : (cc != 0) = true := by simpa using hz
        have hv := HE.out (by simpa using hz)
        have HVV := Lib.hid hv
        clear hv
        rcases HT.out with rfl | rfl | rfl
        · go_wp2_with (go_at_call 119; refine (HC.out _ (Below.refl _ _)).mono ?_; rintro e w1 ⟨rfl, hb1⟩)
          go_ret
          exact ⟨by rw [HVV.out]; rfl, up_below' HBw.out hb1⟩
        · cases hz
        · go_wp2_with (go_at_call 119; refine (HC.out _ (Below.refl _ _)).mono ?_; rintro e w1 ⟨rfl, hb1⟩)
          go_ret
          exact ⟨by rw [HVV.out]; rfl, up_below' HBw.out hb1⟩
    · have hke : k = n := by omega
      subst hke
      have he := collV_end l m (fun j x y hx hy => HZ.out j x y (by rw [← HL.out]; exact (List.getElem?_eq_some_iff.1 hx).1) hx hy)
      have HVV := Lib.hid he
      clear he
      go_wp2
      go_ret
      exact ⟨by rw [HVV.out]; rfl, hb⟩

end Go.Proofs.YtffgkocokkhahaaGreatDoor
