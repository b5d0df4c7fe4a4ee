/-
  laws.allConcrete of a list of values.
-/
import Derived.Test.YtffgkocokkhahaaGreatDoorSl
import Derived.Test.YtffgkocokkhahaaGreatDoorConc
namespace Go.Proofs.YtffgkocokkhahaaGreatDoor
open Go.RowKit

def VV.conc (x : VV) : Bool := concB (Kd.of x.k.toList) x.n x.u x.f x.s
def concL (l : List VV) (most : Int) : Bool := decide ((l.length : Int) ≤ most) && l.all VV.conc

set_option maxHeartbeats 400000 in
theorem allConcrete_any (l : List VV) (A : Option Addr) (c : Nat) (most : Int) (w : World) (hl : LAt w A l) (hm : l.length ≤ 9223372036854775807) :
    Calls Tryz.prog 18 #[.slice A l.length c, .int .i64 most] w fun e w' => e = .returned (.bool (concL l most)) ∧ Below w.heap.size w w' := by
  obtain ⟨len, hlen⟩ : ∃ len, len = l.length := ⟨_, rfl⟩
  have HL := Lib.hid hl
  have HN := Lib.hid hlen
  rw [← hlen] at hm ⊢
  have HB : Hid (most < (len : Int) → concL l most = false) := fun h => by unfold concL; rw [← hlen]; simp; omega
  have HE : Hid (∀ (k : Nat) (x : VV), l[k]? = some x → x.conc = false → concL l most = false) := fun k x hx hf => by
    unfold concL
    rw [Bool.and_eq_false_iff]
    right
    rw [List.all_eq_false]
    exact ⟨x, List.mem_of_getElem? hx, by rw [hf]; decide⟩
  have HY : Hid ((len : Int) ≤ most → (∀ (j : Nat) (x : VV), j < len → l[j]? = some x → x.conc = true) → concL l most = true) := fun h1 h2 => by
    unfold concL
    rw [Bool.and_eq_true, decide_eq_true_eq, List.all_eq_true]
    refine ⟨by omega, fun x hx => ?_⟩
    obtain ⟨j, hj, rfl⟩ := List.getElem_of_mem hx
    exact h2 j _ (by omega) (List.getElem?_eq_getElem hj)
  clear hl hlen
  have HF0 := Lib.hid (fun (x : VV) (h : x.conc = false) w => show Calls Tryz.prog 29 #[.agg #[.string x.k, .int .i64 x.n, .int .u64 x.u, .float .f64 x.f, .string x.s]] w fun e w' => e = .returned (.bool false) ∧ Below w.heap.size w w' by rw [← h]; exact concrete_any x.k x.n x.u x.f x.s w)
  have HF1 := Lib.hid (fun (x : VV) (h : x.conc = true) w => show Calls Tryz.prog 29 #[.agg #[.string x.k, .int .i64 x.n, .int .u64 x.u, .float .f64 x.f, .string x.s]] w fun e w' => e = .returned (.bool true) ∧ Below w.heap.size w w' by rw [← h]; exact concrete_any x.k x.n x.u x.f x.s w)
  go_enter Tryz.func18, Tryz.ntmps18
  go_wp2
  · go_ret
    exact ⟨by rw [HB.out (by omega)]; rfl, Below.refl _ _⟩
  go_loopw [12] (fun i wr => ∃ k : Nat, k ≤ len ∧ i = .int .i64 k ∧ Below w.heap.size w wr ∧ ∀ (j : Nat) (x : VV), j < k → l[j]? = some x → x.conc = true) (fun i _ => len - (intOf i).toNat)
  case atStart => exact ⟨0, by omega, rfl, Below.refl _ _, fun _ _ h => by omega⟩
  case round =>
    obtain ⟨k, hk, rfl, hb, hall⟩ := hrel
    have HA := Lib.hid hall
    clear hall
    by_cases hlt : k < len
    · obtain ⟨x, hx'⟩ : ∃ x, l[k]? = some x := ⟨_, List.getElem?_eq_getElem (by rw [← HN.out]; exact hlt)⟩
      have HX := Lib.hid hx'
      obtain ⟨ad, rfl, hbl, h0, h1, h2, h3, h4⟩ := (HL.out.below hb) k x hx'
      clear hx'
      have hs := hb.size
      cases hf : x.conc with
      | false =>
        have HW := Lib.hid (HF0.out x hf)
        have hf' := Lib.hid hf
        clear hf
        go_wp2_with (go_at_call 29; refine (HW.out _).mono ?_; rintro e w1 ⟨rfl, hb1⟩)
        go_ret
        exact ⟨by rw [HE.out k x HX.out hf'.out]; rfl, up_below' hb hb1⟩
      | true =>
        have HW := Lib.hid (HF1.out x hf)
        have hf' := Lib.hid hf
        clear hf
        go_wp2_with (go_at_call 29; refine (HW.out _).mono ?_; rintro e w1 ⟨rfl, hb1⟩)
        refine ⟨⟨k + 1, by omega, by push_cast; rfl, up_below' hb hb1, fun j y hj hy => ?_⟩, by simp [intOf]; omega⟩
        rcases Nat.lt_or_ge j k with h | h
        · exact HA.out j y h hy
        · obtain rfl : j = k := by omega
          obtain rfl : y = x := Option.some.inj (hy.symm.trans HX.out)
          exact hf'.out
    · have hke : k = len := by omega
      subst hke
      go_wp2
      go_ret
      exact ⟨by rw [HY.out (by omega) HA.out]; rfl, hb⟩

end Go.Proofs.YtffgkocokkhahaaGreatDoor
