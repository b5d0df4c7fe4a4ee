/-
  Lists of values in memory; laws.zzFits2 of them.
-/
import Derived.Test.YtffgkocokkhahaaGreatDoorBase
namespace Go.Proofs.YtffgkocokkhahaaGreatDoor
open Go.RowKit

/-- A value's fields. -/
structure VV where
  k : ByteArray
  n : Int
  u : Int
  f : Nat
  s : ByteArray

def VV.val (x : VV) : Value := .agg #[.string x.k, .int .i64 x.n, .int .u64 x.u, .float .f64 x.f, .string x.s]

/-- A list of values lies in memory. -/
def LAt (w : World) (A : Option Addr) (l : List VV) : Prop :=
  ∀ i x, l[i]? = some x → ∃ ad, A = some ad ∧ (ad.add (i * 5)).block < w.heap.size ∧ w.cell? (ad.add (i * 5)) = some (.string x.k) ∧ w.cell? ⟨(ad.add (i * 5)).block, (ad.add (i * 5)).off + 1, none⟩ = some (.int .i64 x.n) ∧
    w.cell? ⟨(ad.add (i * 5)).block, (ad.add (i * 5)).off + 2, none⟩ = some (.int .u64 x.u) ∧ w.cell? ⟨(ad.add (i * 5)).block, (ad.add (i * 5)).off + 3, none⟩ = some (.float .f64 x.f) ∧ w.cell? ⟨(ad.add (i * 5)).block, (ad.add (i * 5)).off + 4, none⟩ = some (.string x.s)

theorem block_add (a : Addr) (j : Nat) : (a.add j).block = a.block := by unfold Addr.add; split <;> rfl

theorem LAt.below {w w' : World} {A : Option Addr} {l : List VV} (h : LAt w A l) (hb : Below w.heap.size w w') : LAt w' A l := by
  intro i x hx
  obtain ⟨ad, rfl, hlt, h0, h1, h2, h3, h4⟩ := h i x hx
  refine ⟨ad, rfl, Nat.lt_of_lt_of_le hlt hb.size, ?_, ?_, ?_, ?_, ?_⟩
  all_goals (rw [hb.cell (by exact hlt)]; assumption)

theorem up_below' {w w' w'' : World} (h : Below w.heap.size w w') (h2 : Below w'.heap.size w' w'') : Below w.heap.size w w'' := h.trans (h2.mono h.size)

def fits2B (l : List VV) : Bool := decide (l.length ≤ 2147483647) && l.all fun x => fitsB x.k x.s

theorem zzFits2_any (l : List VV) (A : Option Addr) (c : Nat) (w : World) (hl : LAt w A l) :
    Calls Tryz.prog 28 #[.slice A l.length c] w fun e w' => e = .returned (.bool (fits2B l)) ∧ Below w.heap.size w w' := by
  obtain ⟨len, hlen⟩ : ∃ len, len = l.length := ⟨_, rfl⟩
  have HL := Lib.hid hl
  have HN := Lib.hid hlen
  rw [← hlen]
  have HB : Hid (2147483647 < len → fits2B l = false) := fun h => by unfold fits2B; rw [← hlen]; simp; omega
  have HE : Hid (∀ (k : Nat) (x : VV), l[k]? = some x → fitsB x.k x.s = false → fits2B l = false) := fun k x hx hf => by
    unfold fits2B
    rw [Bool.and_eq_false_iff]
    right
    rw [List.all_eq_false]
    exact ⟨x, List.mem_of_getElem? hx, by rw [hf]; decide⟩
  have HY : Hid (len ≤ 2147483647 → (∀ j x, j < len → l[j]? = some x → fitsB x.k x.s = true) → fits2B l = true) := fun h1 h2 => by
    unfold fits2B
    rw [Bool.and_eq_true, decide_eq_true_eq, List.all_eq_true]
    refine ⟨by omega, fun x hx => ?_⟩
    obtain ⟨j, hj, rfl⟩ := List.getElem_of_mem hx
    exact h2 j _ (by omega) (List.getElem?_eq_getElem hj)
  clear hl hlen
  go_enter Tryz.func28, Tryz.ntmps28
  have HF0 := Lib.hid (fun (x : VV) (h : fitsB x.k x.s = false) w => show Calls Tryz.prog 49 #[.agg #[.string x.k, .int .i64 x.n, .int .u64 x.u, .float .f64 x.f, .string x.s]] w fun e w' => e = .returned (.bool false) ∧ Below w.heap.size w w' by rw [← h]; exact zzFits1_any x.k x.n x.u x.f x.s w)
  have HF1 := Lib.hid (fun (x : VV) (h : fitsB x.k x.s = true) w => show Calls Tryz.prog 49 #[.agg #[.string x.k, .int .i64 x.n, .int .u64 x.u, .float .f64 x.f, .string x.s]] w fun e w' => e = .returned (.bool true) ∧ Below w.heap.size w w' by rw [← h]; exact zzFits1_any x.k x.n x.u x.f x.s w)
  go_wp2
  · go_ret
    exact ⟨by rw [HB.out (by omega)]; rfl, Below.refl _ _⟩
  go_loopw [10] (fun i wr => ∃ k : Nat, k ≤ len ∧ i = .int .i64 k ∧ Below w.heap.size w wr ∧ ∀ j x, j < k → l[j]? = some x → fitsB x.k x.s = true) (fun i _ => len - (intOf i).toNat)
  case atStart => exact ⟨0, by omega, rfl, Below.refl _ _, fun _ _ h => by omega⟩
  case round =>
    obtain ⟨k, hk, rfl, hb, hall⟩ := hrel
    have HA := Lib.hid hall
    clear hall
    by_cases hlt : k < len
    · have hx : l[k]? = some (l[k]'(by rw [← HN.out]; exact hlt)) := List.getElem?_eq_getElem _
      obtain ⟨x, hx'⟩ : ∃ x, l[k]? = some x := ⟨_, hx⟩
      clear hx
      have HX := Lib.hid hx'
      obtain ⟨ad, rfl, hbl, h0, h1, h2, h3, h4⟩ := (HL.out.below hb) k x hx'
      clear hx'
      have hs := hb.size
      cases hf : fitsB x.k x.s with
      | false =>
        have HW := Lib.hid (HF0.out x hf)
        have hf' := Lib.hid hf
        clear hf
        go_wp2_with (go_at_call 49; refine (HW.out _).mono ?_; rintro e w1 ⟨rfl, hb1⟩)
        go_ret
        exact ⟨by rw [HE.out k x HX.out hf'.out]; rfl, up_below' (hb.alloc hb.size _) hb1⟩
      | true =>
        have HW := Lib.hid (HF1.out x hf)
        have hf' := Lib.hid hf
        clear hf
        go_wp2_with (go_at_call 49; refine (HW.out _).mono ?_; rintro e w1 ⟨rfl, hb1⟩)
        refine ⟨⟨k + 1, by omega, by push_cast; rfl, up_below' (hb.alloc hb.size _) hb1, fun j y hj hy => ?_⟩, by simp [intOf]; omega⟩
        rcases Nat.lt_or_ge j k with h | h
        · exact HA.out j y h hy
        · obtain rfl : j = k := by omega
          obtain rfl : y = x := Option.some.inj (hy.symm.trans HX.out)
          exact hf'.out
    · have hke : k = len := by omega
      subst hke
      go_wp2
      go_ret
      exact ⟨by rw [HY.out (by omega) HA.out]; rfl, hb⟩

end Go.Proofs.YtffgkocokkhahaaGreatDoor
