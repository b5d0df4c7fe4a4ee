/-
  impl.ins, and where what it makes lies; data that stay as they are.
-/
import Derived.Test.YtffgkocokkhahaaGreatDoorSl4
import Derived.Test.YtffgkocokkhahaaGreatDoorSl6
import Derived.Test.YtffgkocokkhahaaGreatDoorPg
namespace Go.Proofs.YtffgkocokkhahaaGreatDoor
open Go.RowKit

def InsPost2 (l : List VV) (w : World) (e : Ending) (w' : World) : Prop :=
  ∃ A c vs, e = .returned (.slice A l.length c) ∧ Reads w' w'.heap.size 1 A l.length vs ∧ RepK w' l l.length vs ∧ Below w.heap.size w w' ∧ (∀ ad, A = some ad → w.heap.size ≤ ad.block) ∧ ∀ (j : Nat) (v : Value), vs[j]? = some v → From w.heap.size v

theorem from_more {B C : Nat} {vs : List Value} {v : Value} (h : ∀ (j : Nat) (v : Value), vs[j]? = some v → From B v) (hv : From C v) (hBC : B ≤ C) : ∀ (j : Nat) (u : Value), (vs ++ [v])[j]? = some u → From B u := by
  intro j u hu
  have hm : u ∈ vs ++ [v] := List.mem_of_getElem? hu
  rcases List.mem_append.1 hm with h' | h'
  · obtain ⟨i, hi⟩ := List.getElem?_of_mem h'
    exact h i u hi
  · have : u = v := by simpa using h'
    subst this
    exact fun t a n c e => Nat.le_trans hBC (hv t a n c e)

theorem own_from {w : World} {B : Nat} {e : TypeId} {size n c : Nat} {A : Option Addr} {xs : List Value} (h : w.ownsRow B e size (.slice A n c) n xs) : ∀ ad, A = some ad → B ≤ ad.block := by
  intro ad hA
  rcases h.2 with ⟨h2, _⟩ | ⟨g, cap, cur, e1, e2, _⟩
  · injection h2 with h2
    rw [h2] at hA
    cases hA
  · injection e1 with e1
    rw [hA] at e1
    injection e1 with e1
    subst e1
    exact e2

set_option maxHeartbeats 1000000 in
theorem ins2_all (l : List VV) (A : Option Addr) (c : Nat) (w : World) (hl : LAt w A l) (hgood : ∀ (j : Nat) (x : VV), l[j]? = some x → x.good) (hm : l.length ≤ 2147483647) :
    Calls Tryz.prog 39 #[.slice A l.length c] w (InsPost2 l w) := by
  obtain ⟨i0, hi, hz0, hz1, hz2⟩ := info_parts info_iface
  obtain ⟨len, hlen⟩ : ∃ len, len = l.length := ⟨_, rfl⟩
  have HL := Lib.hid hl
  have HN := Lib.hid hlen
  have HI := Lib.hid (fun (x : VV) (hg : x.good) w => in2_any x hg w)
  have HG := Lib.hid hgood
  unfold InsPost2
  rw [← hlen] at hm ⊢
  clear hl hlen hgood
  go_enter Tryz.func39, Tryz.ntmps39
  go_wp2
  go_loopw [3, 8] (fun r i wr => ∃ (k : Nat) (vs : List Value), k ≤ len ∧ i = .int .i64 k ∧ wr.ownsRow w.heap.size 20 1 r k vs ∧ RepK wr l k vs ∧ Apart vs r.ownBlock ∧ (∀ (j : Nat) (v : Value), vs[j]? = some v → From w.heap.size v) ∧ Below w.heap.size w wr) (fun _ i _ => len - (intOf i).toNat)
  case atStart => exact ⟨0, [], by omega, rfl, World.ownsRow_nil _ _ _ _, ⟨rfl, fun j x v _ h => by simp at h⟩, fun j v h => by simp at h, fun j v h => by simp at h, Below.refl _ _⟩
  case round =>
    obtain ⟨k, vs, hk, rfl, hown, hrep, hap, hfr, hb⟩ := hrel
    have HFR := Lib.hid hfr
    have HO := Lib.hid hown
    have HR := Lib.hid hrep
    have HP := Lib.hid hap
    have HB := Lib.hid hb
    have hs := hb.size
    clear hown hrep hap hfr
    by_cases hlt : k < len
    · have hlt2 : k < l.length := by rw [← HN.out]; exact hlt
      obtain ⟨x, hx'⟩ : ∃ x, l[k]? = some x := ⟨_, List.getElem?_eq_getElem hlt2⟩
      have HX := Lib.hid hx'
      have HX2 := Lib.hid (HI.out x (HG.out k x hx'))
      have HT := Lib.hid hlt2
      obtain ⟨ad, rfl, hbl, h0, h1, h2, h3, h4⟩ := (HL.out.below hb) k x hx'
      clear hx' hlt2 hb
      go_wp2_with (first
        | (go_at_call 68; refine (HX2.out _).mono ?_; rintro e w1 ⟨v, y, rfl, hrv, hb1, hsv, hnew⟩; have HV := Lib.hid hrv; have HS := Lib.hid hsv; have HW := Lib.hid hnew; have HB1 := Lib.hid hb1; clear hsv hnew hb1; rcases rep_form hrv with rfl | ⟨tv, uv, rfl⟩ <;> clear hrv)
        | (at_builtin
           refine wpList_append_any _ rfl (.tmp 12) (.tmp 15) _ rfl w.heap.size 20 i0 _ 1 16 Tryz.underlying87 hi hz0 hz1 hz2 rfl (by omega) u3 k vs rfl
             ((own_below (HO.out.alloc _) HB1.out).alloc _) (w1.heap.size + 1) (some ⟨w1.heap.size, 0, none⟩) 1 1 [_] rfl (reads_new _ _ _) (fun u hu => by simp at hu; subst hu; exact rep_one HV.out) (by simp only [maxLen]; omega) (by omega) (by have := HB1.out.size; simp at this ⊢; omega) ?_
           intro v2 w2 hown2 hg2 hat2
           have HO2 := Lib.hid hown2; have HG2 := Lib.hid hg2; have HA2 := Lib.hid hat2; clear hown2 hg2 hat2))
      all_goals
        have R := ins_step HO.out HB.out.size HR.out HP.out HT.out HX.out HB1.out HV.out HS.out HW.out HG2.out HA2.out HB.out
        exact ⟨⟨k + 1, _, by omega, by push_cast; rfl, HO2.out, R.1, R.2.1, from_more HFR.out HW.out (by simp; omega), R.2.2⟩, by simp [intOf]; omega⟩
    · have hke : k = len := by omega
      subst hke
      obtain ⟨A', c', rfl⟩ := own_form HO.out
      go_wp2
      go_ret
      exact ⟨A', c', vs, rfl, Reads.of_own HO.out, HR.out, HB.out, own_from HO.out, HFR.out⟩


/-- Values that lie in memory of their own. -/
structure InsD (D : Nat → Prop) (w : World) (l : List VV) (A : Option Addr) (vs : List Value) : Prop where
  reads : Reads w w.heap.size 1 A l.length vs
  rep : RepK w l l.length vs
  row : ∀ ad, A = some ad → D ad.block
  vals : ∀ (j : Nat) (v : Value), vs[j]? = some v → ∀ (t : TypeId) (a : Addr) (n c : Nat), v = .iface t (.slice (some a) n c) → D a.block

theorem Rep.chg {S : Nat → Prop} {w w' : World} {y : SV} {v : Value} (h : Rep w y v) (hc : Chg S w w') (hn : ∀ t a n c, v = .iface t (.slice (some a) n c) → ¬ S a.block) : Rep w' y v := by
  cases y <;> try exact h
  obtain ⟨a, cap, rfl, hlt, hcell⟩ := h
  have hb := hc.block a.block hlt (hn _ a _ cap rfl)
  refine ⟨a, cap, rfl, Nat.lt_of_lt_of_le hlt hc.size, fun j hj => ?_⟩
  rw [← hcell j hj]
  exact World.cell?_of_block (by rw [block_add]; exact hb)

theorem InsD.chg {D S : Nat → Prop} {w w' : World} {l : List VV} {A : Option Addr} {vs : List Value} (h : InsD D w l A vs) (hc : Chg S w w') (hn : ∀ k, D k → ¬ S k) : InsD D w' l A vs := by
  refine ⟨⟨h.reads.1, fun hl => ?_⟩, ⟨h.rep.1, fun j x v hx hv => ?_⟩, h.row, h.vals⟩
  · obtain ⟨ad, e, hlt, hcell⟩ := h.reads.2 hl
    refine ⟨ad, e, Nat.lt_of_lt_of_le hlt hc.size, fun j u hu => ?_⟩
    rw [← hcell j u hu]
    exact World.cell?_of_block (by rw [block_add]; exact hc.block _ hlt (hn _ (h.row ad e)))
  · obtain ⟨y, h1, h2⟩ := h.rep.2 j x v hx hv
    exact ⟨y, h1, h2.chg hc (fun t a n c e => hn _ (h.vals j v hv t a n c e))⟩

theorem InsD.mono {D E : Nat → Prop} {w : World} {l : List VV} {A : Option Addr} {vs : List Value} (h : InsD D w l A vs) (hn : ∀ k, D k → E k) : InsD E w l A vs :=
  ⟨h.reads, h.rep, fun ad e => hn _ (h.row ad e), fun j v hv t a n c e => hn _ (h.vals j v hv t a n c e)⟩

end Go.Proofs.YtffgkocokkhahaaGreatDoor
