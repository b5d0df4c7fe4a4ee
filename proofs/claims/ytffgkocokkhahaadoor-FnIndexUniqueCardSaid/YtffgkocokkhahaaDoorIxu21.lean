/-
  impl.out at every value; laws.same; ql.ideal, impl.Ideal, laws.ideals. PRINTED BY wip/tpl/gen_out2.py. || impl.outs: values of ql as plain data, each by itself. || impl.ins, and where what it makes lies; data that stay as they are. || impl.indexWalk.
-/
import Derived.Test.YtffgkocokkhahaaDoorIxu20
import Derived.Deep.RegionWith
import Derived.Test.YtffgkocokkhahaaDoorIxu05
import Derived.Test.YtffgkocokkhahaaDoorIxu01
import Derived.Test.YtffgkocokkhahaaDoorIxu12
import Derived.Test.YtffgkocokkhahaaDoorIxu18

/- impl.out at every value; laws.same; ql.ideal, impl.Ideal, laws.ideals. PRINTED BY wip/tpl/gen_out2.py. -/
namespace Go.Proofs.YtffgkocokkhahaaDoor
open Go.RowKit


/-- What is in a value fits. -/
def SV.wf : SV → Prop
  | .int k n => k.min ≤ n ∧ n ≤ k.max
  | .iInt n => IntKind.i64.min ≤ n ∧ n ≤ IntKind.i64.max
  | .iRune n => IntKind.i32.min ≤ n ∧ n ≤ IntKind.i32.max
  | .iUint n => IntKind.u64.min ≤ n ∧ n ≤ IntKind.u64.max
  | .f32 x => x < 4294967296
  | .f64 x | .iFloat x => x < 18446744073709551616
  | _ => True

theorem wrap64_of {n : Int} (h1 : -9223372036854775808 ≤ n) (h2 : n ≤ 9223372036854775807) : wrap64 n = n := by unfold wrap64; omega

theorem out_any (x : SV) (hx : x.wf) (v : Value) (w : World) (h : Rep w x v) : Calls Tryd.prog 74 #[v] w (OutPost x w) := by
  cases x with
  | null => exact out_null v w h
  | bool b => exact out_bool b v w h
  | f32 x =>
    cases hn : (Ieee.single.read x).isNaN with
    | true => exact out_f32_nan x hn v w h
    | false => exact out_f32 x hn v w h
  | f64 x => exact out_f64 x v w h
  | str s => exact out_str s v w h
  | blob l => exact out_blob l v w h
  | iInt n => exact out_iInt n v w h
  | iUint n => exact out_iUint n v w h
  | iFloat x => exact out_iFloat x v w h
  | iRune n =>
    obtain ⟨h1, h2⟩ := hx
    simp only [IntKind.min, IntKind.max, IntKind.signed, IntKind.bits, if_true, Nat.reduceSub, Int.reducePow, Int.reduceSub] at h1 h2
    exact out_iRune n v w (wrap64_of (by omega) (by omega)) h
  | int q n =>
    obtain ⟨h1, h2⟩ := hx
    cases q <;> simp only [IntKind.min, IntKind.max, IntKind.signed, IntKind.bits, if_true, if_false, Bool.false_eq_true, Nat.reduceSub, Int.reducePow, Int.reduceSub] at h1 h2
    case i8 => exact out_i8 n v w (wrap64_of (by omega) (by omega)) h
    case i16 => exact out_i16 n v w (wrap64_of (by omega) (by omega)) h
    case i32 => exact out_i32 n v w (wrap64_of (by omega) (by omega)) h
    case i64 => exact out_i64 n v w h
    case u8 => exact out_u8 n v w (wrap_i (by simp [IntKind.min, IntKind.signed]; omega) (by simp [IntKind.max, IntKind.signed, IntKind.bits]; omega)) h
    case u16 => exact out_u16 n v w (wrap_i (by simp [IntKind.min, IntKind.signed]; omega) (by simp [IntKind.max, IntKind.signed, IntKind.bits]; omega)) h
    case u32 => exact out_u32 n v w (wrap_i (by simp [IntKind.min, IntKind.signed]; omega) (by simp [IntKind.max, IntKind.signed, IntKind.bits]; omega)) h
    case u64 => exact out_u64 n v w h

/-- What 'same' tells. -/
def sameB (k : ByteArray) (n u : Int) (f : Nat) (s : ByteArray) (k' : ByteArray) (n' u' : Int) (f' : Nat) (s' : ByteArray) : Bool :=
  k.toList == k'.toList && n == n' && u == u' && (bitsV f : Int) == bitsV f' && s.toList == s'.toList

set_option maxRecDepth 100000 in
set_option maxHeartbeats 1000000 in
theorem same_any (k : ByteArray) (n u : Int) (f : Nat) (s : ByteArray) (k' : ByteArray) (n' u' : Int) (f' : Nat) (s' : ByteArray) (w : World) :
    Calls Tryd.prog 32 #[.agg #[.string k, .int .i64 n, .int .u64 u, .float .f64 f, .string s], .agg #[.string k', .int .i64 n', .int .u64 u', .float .f64 f', .string s']] w fun e w' => e = .returned (.bool (sameB k n u f s k' n' u' f' s')) ∧ Below w.heap.size w w' := by
  cases h1 : (k.toList == k'.toList) with
  | false =>
    have hv : sameB k n u f s k' n' u' f' s' = false := by unfold sameB; rw [h1]; rfl
    rw [hv]
    clear hv
    go_enter Tryd.func32, Tryd.ntmps32
    go_wp2
    go_quiet ((go_at_call 67; exact quiet_of_left (bits_any _ _)))
    go_wp2
    go_ret
    exact ⟨rfl, below_drewN (((Below.refl _ _).alloc (Nat.le_refl _) _).alloc (by simp) _) _⟩
  | true =>
    cases h2 : (n == n') with
    | false =>
      have hv : sameB k n u f s k' n' u' f' s' = false := by unfold sameB; rw [h1]; rw [h2]; simp
      rw [hv]
      clear hv
      go_enter Tryd.func32, Tryd.ntmps32
      go_wp2
      go_quiet ((go_at_call 67; exact quiet_of_left (bits_any _ _)))
      go_wp2
      go_ret
      exact ⟨rfl, below_drewN (((Below.refl _ _).alloc (Nat.le_refl _) _).alloc (by simp) _) _⟩
    | true =>
      cases h3 : (u == u') with
      | false =>
        have hv : sameB k n u f s k' n' u' f' s' = false := by unfold sameB; rw [h1]; rw [h2]; rw [h3]; simp
        rw [hv]
        clear hv
        go_enter Tryd.func32, Tryd.ntmps32
        go_wp2
        go_quiet ((go_at_call 67; exact quiet_of_left (bits_any _ _)))
        go_wp2
        go_ret
        exact ⟨rfl, below_drewN (((Below.refl _ _).alloc (Nat.le_refl _) _).alloc (by simp) _) _⟩
      | true =>
        cases h4 : ((bitsV f : Int) == bitsV f') with
        | false =>
          have hv : sameB k n u f s k' n' u' f' s' = false := by unfold sameB; rw [h1]; rw [h2]; rw [h3]; rw [h4]; simp
          rw [hv]
          clear hv
          go_enter Tryd.func32, Tryd.ntmps32
          go_wp2
          go_quiet ((go_at_call 67; exact quiet_of_left (bits_any _ _)))
          go_wp2
          go_ret
          exact ⟨rfl, below_drewN (((Below.refl _ _).alloc (Nat.le_refl _) _).alloc (by simp) _) _⟩
        | true =>
          have hv : sameB k n u f s k' n' u' f' s' = (s.toList == s'.toList) := by unfold sameB; rw [h1]; rw [h2]; rw [h3]; rw [h4]; simp
          rw [hv]
          clear hv
          go_enter Tryd.func32, Tryd.ntmps32
          go_wp2
          go_quiet ((go_at_call 67; exact quiet_of_left (bits_any _ _)))
          go_wp2
          go_ret
          exact ⟨rfl, below_drewN (((Below.refl _ _).alloc (Nat.le_refl _) _).alloc (by simp) _) _⟩

theorem toSV_wf {kd : Kd} {n u : Int} {f : Nat} {s : ByteArray} {y : SV} (hr : Rng n u f) (hv : validB kd n u f s = true) (h : SVof kd n u f s y) : y.wf := by
  obtain ⟨r1, r2, r3, r4, r5⟩ := hr
  unfold SVof at h
  split at h
  · obtain ⟨x, rfl, _, hx⟩ := h
    exact hx
  · rename_i hne
    subst h
    cases kd with
    | int q =>
      cases q <;> simp only [validB, Bool.and_eq_true, beq_iff_eq] at hv <;> simp [toSV, SV.wf, IntKind.min, IntKind.max, IntKind.signed, IntKind.bits] <;> omega
    | iInt => simp [toSV, SV.wf, IntKind.min, IntKind.max, IntKind.signed, IntKind.bits]; omega
    | iRune => simp only [validB, Bool.and_eq_true, beq_iff_eq] at hv; simp [toSV, SV.wf, IntKind.min, IntKind.max, IntKind.signed, IntKind.bits]; omega
    | iUint => simp [toSV, SV.wf, IntKind.min, IntKind.max, IntKind.signed, IntKind.bits]; omega
    | f32 =>
      simp only [toSV, SV.wf]
      unfold Flt.down
      exact Nat.lt_of_lt_of_le (Ieee.Format.write_lt _ _) (by decide)
    | f64 => exact r5
    | iFloat => exact r5
    | _ => trivial

def idealIntS : ByteArray := ⟨#[105, 100, 101, 97, 108, 73, 110, 116]⟩

end Go.Proofs.YtffgkocokkhahaaDoor

/- impl.outs: values of ql as plain data, each by itself. -/
namespace Go.Proofs.YtffgkocokkhahaaDoor
open Go.RowKit

def VV.cells (x : VV) : List Value := [.string x.k, .int .i64 x.n, .int .u64 x.u, .float .f64 x.f, .string x.s]
theorem VV.cells_len (x : VV) : x.cells.length = 5 := rfl

theorem reads_one (w : World) (x : VV) (t : TypeId) : Reads (w.alloc (.cells #[.string x.k, .int .i64 x.n, .int .u64 x.u, .float .f64 x.f, .string x.s] t)) (w.heap.size + 1) 5 (some ⟨w.heap.size, 0, none⟩) 1 x.cells :=
  ⟨rfl, fun _ => ⟨_, rfl, Nat.lt_succ_self _, fun j u hu => World.news_of_block (heap_new w _) j u hu⟩⟩

theorem info_value : (Tryd.prog.info? 58).map (fun i => (i.zero, i.size, i.bytes)) = some (some (.agg #[.string ⟨#[]⟩, .int .i64 0, .int .u64 0, .float .f64 0, .string ⟨#[]⟩]), 5, 56) := by kernel_rfl

/-- What comes out of what was put in as x. -/
def OutOf (x u : VV) : Prop := ∃ y : SV, x.is y ∧ y.wf ∧ FOut y u.f ∧ u.k = y.nm ∧ u.n = y.oN ∧ u.u = y.oU ∧ u.s = y.oS

def OutsPost (l : List VV) (w : World) (e : Ending) (w' : World) : Prop :=
  ∃ A c us, e = .returned (.slice A l.length c) ∧ w'.ownsRow w.heap.size 58 5 (.slice A l.length c) l.length (flat VV.cells us) ∧ us.length = l.length ∧ (∀ (j : Nat) (x u : VV), l[j]? = some x → us[j]? = some u → OutOf x u) ∧ Below w.heap.size w w'

set_option maxHeartbeats 1000000 in
theorem outs_any (l : List VV) (A : Option Addr) (c : Nat) (vs : List Value) (w : World) (hr : Reads w w.heap.size 1 A l.length vs) (hk : RepK w l l.length vs) (hg : ∀ (j : Nat) (x : VV), l[j]? = some x → x.good) (hm : l.length ≤ 2147483647) :
    Calls Tryd.prog 39 #[.slice A l.length c] w (OutsPost l w) := by
  obtain ⟨i0, hi, hz0, hz1, hz2⟩ := info_parts info_value
  obtain ⟨len, hlen⟩ : ∃ len, len = l.length := ⟨_, rfl⟩
  have HR := Lib.hid hr
  have HK := Lib.hid hk
  have HN := Lib.hid hlen
  have HG := Lib.hid hg
  unfold OutsPost
  rw [← hlen] at hm ⊢
  clear hr hk hlen hg
  go_enter Tryd.func39, Tryd.ntmps39
  go_wp2
  go_loopw [3, 8] (fun r i wr => ∃ (k : Nat) (us : List VV), k ≤ len ∧ i = .int .i64 k ∧ wr.ownsRow w.heap.size 58 5 r k (flat VV.cells us) ∧ us.length = k ∧ (∀ (j : Nat) (x u : VV), l[j]? = some x → us[j]? = some u → OutOf x u) ∧ Below w.heap.size w wr) (fun _ i _ => len - (intOf i).toNat)
  case atStart => exact ⟨0, [], by omega, rfl, World.ownsRow_nil _ _ _ _, rfl, fun j x u _ h => by simp at h, Below.refl _ _⟩
  case round =>
    obtain ⟨k, us, hk, rfl, hown, hus, hout, hb⟩ := hrel
    have HO := Lib.hid hown
    have HU := Lib.hid hus
    have HT := Lib.hid hout
    have HB := Lib.hid hb
    have hs := hb.size
    clear hown hout hus
    by_cases hlt : k < len
    · obtain ⟨x, hx⟩ : ∃ x, l[k]? = some x := ⟨_, List.getElem?_eq_getElem (by rw [← HN.out]; exact hlt)⟩
      obtain ⟨ad, v, rfl, hbv, hv, hcv⟩ := (HR.out.below hb).at_ (k := k) (by rw [← HN.out]; exact hlt)
      obtain ⟨y, hy, hrep⟩ := (HK.out.below hb).2 k x v hx hv
      have HX := Lib.hid hx
      have HY := Lib.hid hy
      have hwf := toSV_wf (HG.out k x hx).1 (HG.out k x hx).2 hy
      have HW := Lib.hid hwf
      have HC := Lib.hid (fun W (hW : Below wr.heap.size wr W) => out_any y hwf v W (hrep.below hW))
      clear hx hv hy hrep hb hwf
      go_wp2_with (first
        | (go_at_call 74; refine (HC.out _ (Below.refl _ _)).mono ?_; rintro e w1 ⟨f, rfl, hb1, hf⟩; have HB1 := Lib.hid hb1; have HF := Lib.hid hf; have hs1 := hb1.size; clear hb1 hf)
        | (at_builtin
           refine wpList_append_any _ rfl (.tmp 12) (.tmp 15) _ rfl w.heap.size 58 i0 _ 5 56 Tryd.underlying25 hi hz0 hz1 hz2 rfl (by omega) u3 k (flat VV.cells us) rfl
             ((own_below HO.out HB1.out).alloc _) (w1.heap.size + 1) (some ⟨w1.heap.size, 0, none⟩) 1 1 (VV.cells ⟨y.nm, y.oN, y.oU, f, y.oS⟩) rfl (reads_one _ ⟨y.nm, y.oN, y.oU, f, y.oS⟩ _) (fun u hu => by simp [VV.cells] at hu; rcases hu with rfl | rfl | rfl | rfl | rfl <;> rfl) (by simp only [maxLen]; omega) (by omega) (by simp; omega) ?_
           intro v2 w2 hown2 hg2 _
           have HO2 := Lib.hid hown2; have HG2 := Lib.hid hg2; clear hown2 hg2))
      refine ⟨⟨k + 1, us ++ [⟨y.nm, y.oN, y.oU, f, y.oS⟩], by omega, by push_cast; rfl, by rw [flat_append]; simpa [flat] using HO2.out, by simp [HU.out], ?_, ?_⟩, by simp [intOf]; omega⟩
      · intro j a u ha hu
        rcases Nat.lt_or_ge j k with h | h
        · rw [List.getElem?_append_left (by rw [HU.out]; exact h)] at hu
          exact HT.out j a u ha hu
        · rw [List.getElem?_append_right (by rw [HU.out]; exact h), HU.out] at hu
          have hj : j - k = 0 := by
            rcases Nat.eq_zero_or_pos (j - k) with h | h
            · exact h
            · rw [List.getElem?_eq_none (by simp; omega)] at hu
              cases hu
          have hjk : j = k := by omega
          subst hjk
          rw [hj] at hu
          simp at hu
          subst hu
          have : a = x := Option.some.inj (ha.symm.trans HX.out)
          subst this
          exact ⟨y, HY.out, HW.out, HF.out, rfl, rfl, rfl, rfl⟩
      · have hb1 : Below w.heap.size w w1 := up_below' HB.out HB1.out
        exact (hb1.alloc (by omega) _).grown HG2.out (by simp; omega) (fun g hg => (HO.out.lt g hg).1)
    · have hke : k = len := by omega
      subst hke
      obtain ⟨A', c', rfl⟩ := own_form HO.out
      go_wp2
      go_ret
      exact ⟨A', c', us, rfl, HO.out, HU.out, HT.out, HB.out⟩

end Go.Proofs.YtffgkocokkhahaaDoor

/- impl.ins, and where what it makes lies; data that stay as they are. -/
namespace Go.Proofs.YtffgkocokkhahaaDoor
open Go.RowKit

def InsPost2 (l : List VV) (w : World) (e : Ending) (w' : World) : Prop :=
  ∃ A c vs, e = .returned (.slice A l.length c) ∧ Reads w' w'.heap.size 1 A l.length vs ∧ RepK w' l l.length vs ∧ Below w.heap.size w w' ∧ (∀ ad, A = some ad → w.heap.size ≤ ad.block) ∧ ∀ (j : Nat) (v : Value), vs[j]? = some v → From w.heap.size v

theorem from_more {B C : Nat} {vs : List Value} {v : Value} (h : ∀ (j : Nat) (v : Value), vs[j]? = some v → From B v) (hv : From C v) (hBC : B ≤ C) : ∀ (j : Nat) (u : Value), (vs ++ [v])[j]? = some u → From B u := by
  intro j u hu
  have hm : u ∈ vs ++ [v] := List.mem_of_getElem? hu
  rcases List.mem_append.1 hm with h' | h'
  · obtain ⟨i, hi⟩ := List.getElem?_of_mem h'
    exact h i u hi
  · have : u = v := by simpa using h'
    subst this
    exact fun t a n c e => Nat.le_trans hBC (hv t a n c e)

theorem own_from {w : World} {B : Nat} {e : TypeId} {size n c : Nat} {A : Option Addr} {xs : List Value} (h : w.ownsRow B e size (.slice A n c) n xs) : ∀ ad, A = some ad → B ≤ ad.block := by
  intro ad hA
  rcases h.2 with ⟨h2, _⟩ | ⟨g, cap, cur, e1, e2, _⟩
  · injection h2 with h2
    rw [h2] at hA
    cases hA
  · injection e1 with e1
    rw [hA] at e1
    injection e1 with e1
    subst e1
    exact e2

set_option maxHeartbeats 1000000 in
theorem ins2_all (l : List VV) (A : Option Addr) (c : Nat) (w : World) (hl : LAt w A l) (hgood : ∀ (j : Nat) (x : VV), l[j]? = some x → x.good) (hm : l.length ≤ 2147483647) :
    Calls Tryd.prog 29 #[.slice A l.length c] w (InsPost2 l w) := by
  obtain ⟨i0, hi, hz0, hz1, hz2⟩ := info_parts info_iface
  obtain ⟨len, hlen⟩ : ∃ len, len = l.length := ⟨_, rfl⟩
  have HL := Lib.hid hl
  have HN := Lib.hid hlen
  have HI := Lib.hid (fun (x : VV) (hg : x.good) w => in2_any x hg w)
  have HG := Lib.hid hgood
  unfold InsPost2
  rw [← hlen] at hm ⊢
  clear hl hlen hgood
  go_enter Tryd.func29, Tryd.ntmps29
  go_wp2
  go_loopw [3, 8] (fun r i wr => ∃ (k : Nat) (vs : List Value), k ≤ len ∧ i = .int .i64 k ∧ wr.ownsRow w.heap.size 20 1 r k vs ∧ RepK wr l k vs ∧ Apart vs r.ownBlock ∧ (∀ (j : Nat) (v : Value), vs[j]? = some v → From w.heap.size v) ∧ Below w.heap.size w wr) (fun _ i _ => len - (intOf i).toNat)
  case atStart => exact ⟨0, [], by omega, rfl, World.ownsRow_nil _ _ _ _, ⟨rfl, fun j x v _ h => by simp at h⟩, fun j v h => by simp at h, fun j v h => by simp at h, Below.refl _ _⟩
  case round =>
    obtain ⟨k, vs, hk, rfl, hown, hrep, hap, hfr, hb⟩ := hrel
    have HFR := Lib.hid hfr
    have HO := Lib.hid hown
    have HR := Lib.hid hrep
    have HP := Lib.hid hap
    have HB := Lib.hid hb
    have hs := hb.size
    clear hown hrep hap hfr
    by_cases hlt : k < len
    · have hlt2 : k < l.length := by rw [← HN.out]; exact hlt
      obtain ⟨x, hx'⟩ : ∃ x, l[k]? = some x := ⟨_, List.getElem?_eq_getElem hlt2⟩
      have HX := Lib.hid hx'
      have HX2 := Lib.hid (HI.out x (HG.out k x hx'))
      have HT := Lib.hid hlt2
      obtain ⟨ad, rfl, hbl, h0, h1, h2, h3, h4⟩ := (HL.out.below hb) k x hx'
      clear hx' hlt2 hb
      go_wp2_with (first
        | (go_at_call 64; refine (HX2.out _).mono ?_; rintro e w1 ⟨v, y, rfl, hrv, hb1, hsv, hnew⟩; have HV := Lib.hid hrv; have HS := Lib.hid hsv; have HW := Lib.hid hnew; have HB1 := Lib.hid hb1; clear hsv hnew hb1; rcases rep_form hrv with rfl | ⟨tv, uv, rfl⟩ <;> clear hrv)
        | (at_builtin
           refine wpList_append_any _ rfl (.tmp 12) (.tmp 15) _ rfl w.heap.size 20 i0 _ 1 16 Tryd.underlying77 hi hz0 hz1 hz2 rfl (by omega) u3 k vs rfl
             ((own_below (HO.out.alloc _) HB1.out).alloc _) (w1.heap.size + 1) (some ⟨w1.heap.size, 0, none⟩) 1 1 [_] rfl (reads_new _ _ _) (fun u hu => by simp at hu; subst hu; exact rep_one HV.out) (by simp only [maxLen]; omega) (by omega) (by have := HB1.out.size; simp at this ⊢; omega) ?_
           intro v2 w2 hown2 hg2 hat2
           have HO2 := Lib.hid hown2; have HG2 := Lib.hid hg2; have HA2 := Lib.hid hat2; clear hown2 hg2 hat2))
      all_goals
        have R := ins_step HO.out HB.out.size HR.out HP.out HT.out HX.out HB1.out HV.out HS.out HW.out HG2.out HA2.out HB.out
        exact ⟨⟨k + 1, _, by omega, by push_cast; rfl, HO2.out, R.1, R.2.1, from_more HFR.out HW.out (by simp; omega), R.2.2⟩, by simp [intOf]; omega⟩
    · have hke : k = len := by omega
      subst hke
      obtain ⟨A', c', rfl⟩ := own_form HO.out
      go_wp2
      go_ret
      exact ⟨A', c', vs, rfl, Reads.of_own HO.out, HR.out, HB.out, own_from HO.out, HFR.out⟩


/-- Values that lie in memory of their own. -/
structure InsD (D : Nat → Prop) (w : World) (l : List VV) (A : Option Addr) (vs : List Value) : Prop where
  reads : Reads w w.heap.size 1 A l.length vs
  rep : RepK w l l.length vs
  row : ∀ ad, A = some ad → D ad.block
  vals : ∀ (j : Nat) (v : Value), vs[j]? = some v → ∀ (t : TypeId) (a : Addr) (n c : Nat), v = .iface t (.slice (some a) n c) → D a.block

theorem Rep.chg {S : Nat → Prop} {w w' : World} {y : SV} {v : Value} (h : Rep w y v) (hc : Chg S w w') (hn : ∀ t a n c, v = .iface t (.slice (some a) n c) → ¬ S a.block) : Rep w' y v := by
  cases y <;> try exact h
  obtain ⟨a, cap, rfl, hlt, hcell⟩ := h
  have hb := hc.block a.block hlt (hn _ a _ cap rfl)
  refine ⟨a, cap, rfl, Nat.lt_of_lt_of_le hlt hc.size, fun j hj => ?_⟩
  rw [← hcell j hj]
  exact World.cell?_of_block (by rw [block_add]; exact hb)

theorem InsD.chg {D S : Nat → Prop} {w w' : World} {l : List VV} {A : Option Addr} {vs : List Value} (h : InsD D w l A vs) (hc : Chg S w w') (hn : ∀ k, D k → ¬ S k) : InsD D w' l A vs := by
  refine ⟨⟨h.reads.1, fun hl => ?_⟩, ⟨h.rep.1, fun j x v hx hv => ?_⟩, h.row, h.vals⟩
  · obtain ⟨ad, e, hlt, hcell⟩ := h.reads.2 hl
    refine ⟨ad, e, Nat.lt_of_lt_of_le hlt hc.size, fun j u hu => ?_⟩
    rw [← hcell j u hu]
    exact World.cell?_of_block (by rw [block_add]; exact hc.block _ hlt (hn _ (h.row ad e)))
  · obtain ⟨y, h1, h2⟩ := h.rep.2 j x v hx hv
    exact ⟨y, h1, h2.chg hc (fun t a n c e => hn _ (h.vals j v hv t a n c e))⟩

theorem InsD.mono {D E : Nat → Prop} {w : World} {l : List VV} {A : Option Addr} {vs : List Value} (h : InsD D w l A vs) (hn : ∀ k, D k → E k) : InsD E w l A vs :=
  ⟨h.reads, h.rep, fun ad e => hn _ (h.row ad e), fun j v hv t a n c e => hn _ (h.vals j v hv t a n c e)⟩

end Go.Proofs.YtffgkocokkhahaaDoor

/- impl.indexWalk. -/
namespace Go.Proofs.YtffgkocokkhahaaDoor
open Go.RowKit

theorem info_irow : (Tryd.prog.info? 49).map (fun i => (i.zero, i.size, i.bytes)) = some (some (.agg #[.slice none 0 0, .int .i64 0]), 2, 32) := by kernel_rfl

structure RowV where
  A : Option Addr
  c : Nat
  h : Int
  us : List VV
def RowV.cells (r : RowV) : List Value := [.slice r.A r.us.length r.c, .int .i64 r.h]

/-- A row that came out, of an entry. -/
structure RowOk (B : Nat) (w : World) (e : XE) (r : RowV) : Prop where
  h : r.h = e.h
  len : r.us.length = e.l.length
  outs : ∀ (j : Nat) (x u : VV), e.l[j]? = some x → r.us[j]? = some u → OutOf x u
  own : w.ownsRow B 58 5 (.slice r.A r.us.length r.c) r.us.length (flat VV.cells r.us)

@[go_sem] theorem meth_next (n : Nat) (p : Option Addr) (w : World) : (method (n + 1) 189 (.pointer p) "Next").run Tryd.prog w = .ok (165, .pointer p) w := by kernel_rfl
@[go_sem] theorem meth_prev (n : Nat) (p : Option Addr) (w : World) : (method (n + 1) 189 (.pointer p) "Prev").run Tryd.prog w = .ok (166, .pointer p) w := by kernel_rfl

theorem own_ge {w : World} {B : Nat} {e : TypeId} {size n : Nat} {v : Value} {xs : List Value} (h : w.ownsRow B e size v n xs) {b : Nat} (hb : v.ownBlock = some b) : B ≤ b := by
  rcases h.2 with ⟨h2, _⟩ | ⟨g, cap, cur, e1, e2, _⟩
  · rw [h2] at hb; cases hb
  · rw [e1] at hb
    have : g = b := by simpa [Value.ownBlock] using hb
    subst this
    exact e2
theorem own_mono {w : World} {B C : Nat} {e : TypeId} {size n : Nat} {v : Value} {xs : List Value} (h : w.ownsRow B e size v n xs) (hb : C ≤ B) : w.ownsRow C e size v n xs :=
  ⟨h.1, h.2.elim .inl (fun ⟨g, cap, cur, e1, e2, e3⟩ => .inr ⟨g, cap, cur, e1, Nat.le_trans hb e2, e3⟩)⟩
/-- Rows of two types lie apart. -/
theorem own_own {w : World} {B C : Nat} {e f : TypeId} {s t n m : Nat} {u v : Value} {xs ys : List Value} (h : w.ownsRow B e s u n xs) (g : w.ownsRow C f t v m ys) (hne : e ≠ f) : ∀ b, u.ownBlock = some b → v.ownBlock ≠ some b := by
  intro b hb
  rcases h.2 with ⟨h2, _⟩ | ⟨k, cap, cur, e1, e2, e3, _⟩
  · rw [h2] at hb; cases hb
  · rw [e1] at hb
    have : k = b := by simpa [Value.ownBlock] using hb
    subst this
    exact own_ne g e3 (fun h => hne h.symm)

theorem RowOk.chg {B : Nat} {S : Nat → Prop} {w w' : World} {e : XE} {r : RowV} (h : RowOk B w e r) (hc : Chg S w w') (hn : ∀ b, (Value.slice r.A r.us.length r.c).ownBlock = some b → ¬ S b) : RowOk B w' e r := ⟨h.h, h.len, h.outs, own_chg h.own hc hn⟩

def RowsOk (B : Nat) (w : World) (es : List XE) (rs : List RowV) : Prop := ∀ (j : Nat) (e : XE) (r : RowV), es[j]? = some e → rs[j]? = some r → RowOk B w e r

def WalkP (n : Int) (hit : Bool) (es : List XE) (b : Nat) (w : World) (y : Ending) (w' : World) : Prop :=
  ∃ R k rs, y = .returned (.agg #[.int .i64 0, .bool hit, R]) ∧ w'.ownsRow w.heap.size 49 2 R k (flat RowV.cells rs) ∧ rs.length = k ∧ k ≤ es.length ∧ (k : Int) ≤ n ∧ ((k : Int) = n ∨ k = es.length) ∧ RowsOk w.heap.size w' es rs ∧ Chg (fun x => x = b) w w'

theorem walk_kc2 {w1 w2 w3 : World} {a : Nat} {o : Obj} {R : Value} (HB2 : Below w1.heap.size w1 w2) (HG3 : (w2.alloc o).grownBy w3 R.ownBlock) (v : Value) :
    Chg (fun z => R.ownBlock = some z ∨ z = a) w1 (w3.setCell ⟨a, 2, none⟩ v) := by
  have k1 : Chg (fun z => R.ownBlock = some z ∨ z = a) w1 w3 := ((Chg.of_below HB2).alloc _).next (Chg.of_grown HG3) (fun z _ h => .inl h.symm)
  exact k1.setCell (p := ⟨a, 2, none⟩) (.inl (.inr rfl)) v
theorem walk_kc {wr w1 w2 w3 : World} {a b : Nat} {o : Obj} {R : Value} (HC1 : Chg (fun z => z = b) wr w1) (HB2 : Below w1.heap.size w1 w2) (HG3 : (w2.alloc o).grownBy w3 R.ownBlock) (v : Value) :
    Chg (fun z => z = b ∨ R.ownBlock = some z ∨ z = a) wr (w3.setCell ⟨a, 2, none⟩ v) :=
  (HC1.mono (fun _ _ h => .inl h)).next (walk_kc2 HB2 HG3 v) (fun _ _ h => .inr h)

theorem walk_step {n : Int} {hit : Bool} {es : List XE} {b k gg cap c2 : Nat} {w wr w1 w2 w3 : World} {rs : List RowV} {R : Value} {x : XE} {A2 : Option Addr} {us2 : List VV} {o : Obj} {It : Nat → World → Prop} {cs : Array Value} (lb : b < w.heap.size)
    (HA : wr.heap[w.heap.size]? = some (.cells cs 52 (0, 0))) (HB : wr.heap[w.heap.size + 1]? = some (.cells #[.int .i64 0, .bool hit, R] 52 (0, 0)))
    (HO : wr.ownsRow w.heap.size 49 2 R k (flat RowV.cells rs)) (HK : RowsOk w.heap.size wr es rs) (HW : Chg (fun z => z = b) w wr) (HRS : rs.length = k) (HX : es[k]? = some x) (hlt : k < es.length) (hkn : (k : Int) + 1 ≤ n)
    (kc : Chg (fun z => z = b ∨ R.ownBlock = some z ∨ z = w.heap.size + 1) wr (w3.setCell ⟨w.heap.size + 1, 2, none⟩ (.slice (some ⟨gg, 0, none⟩) (k + 1) cap)))
    (HB3 : w3.heap[w.heap.size + 1]? = some (.cells #[.int .i64 0, .bool hit, R] 52 (0, 0))) (HO1 : w1.ownsRow w.heap.size 49 2 R k (flat RowV.cells rs)) (HB1 : w1.heap[w.heap.size + 1]? = some (.cells #[.int .i64 0, .bool hit, R] 52 (0, 0)))
    (HO2 : w2.ownsRow w1.heap.size 58 5 (.slice A2 x.l.length c2) x.l.length (flat VV.cells us2)) (HL2 : us2.length = x.l.length) (HU2 : ∀ (j : Nat) (a u : VV), x.l[j]? = some a → us2[j]? = some u → OutOf a u)
    (HG3 : (w2.alloc o).grownBy w3 R.ownBlock) (HO3 : w3.ownsRow w.heap.size 49 2 (.slice (some ⟨gg, 0, none⟩) (k + 1) cap) (k + 1) (flat RowV.cells rs ++ [.slice A2 x.l.length c2, .int .i64 x.h])) (HI : It (k + 1) (w3.setCell ⟨w.heap.size + 1, 2, none⟩ (.slice (some ⟨gg, 0, none⟩) (k + 1) cap)))
    {E : Value} :
    (rs ++ [(⟨A2, c2, x.h, us2⟩ : RowV)]).length = k + 1 ∧ k + 1 ≤ es.length ∧ ((k + 1 : Nat) : Int) ≤ n ∧
      (w3.setCell ⟨w.heap.size + 1, 2, none⟩ (.slice (some ⟨gg, 0, none⟩) (k + 1) cap)).heap[w.heap.size]? = some (.cells cs 52 (0, 0)) ∧
      (w3.setCell ⟨w.heap.size + 1, 2, none⟩ (.slice (some ⟨gg, 0, none⟩) (k + 1) cap)).heap[w.heap.size + 1]? = some (.cells #[.int .i64 0, .bool hit, .slice (some ⟨gg, 0, none⟩) (k + 1) cap] 52 (0, 0)) ∧
      (w3.setCell ⟨w.heap.size + 1, 2, none⟩ (.slice (some ⟨gg, 0, none⟩) (k + 1) cap)).ownsRow w.heap.size 49 2 (.slice (some ⟨gg, 0, none⟩) (k + 1) cap) (k + 1) (flat RowV.cells (rs ++ [⟨A2, c2, x.h, us2⟩])) ∧
      RowsOk w.heap.size (w3.setCell ⟨w.heap.size + 1, 2, none⟩ (.slice (some ⟨gg, 0, none⟩) (k + 1) cap)) es (rs ++ [⟨A2, c2, x.h, us2⟩]) ∧
      Chg (fun z => z = b) w (w3.setCell ⟨w.heap.size + 1, 2, none⟩ (.slice (some ⟨gg, 0, none⟩) (k + 1) cap)) ∧
      ((Value.nilIface = .nilIface ∧ Value.int .i64 ((k : Int) + 1) = .int .i64 ((k + 1 : Nat) : Int) ∧ It (k + 1) (w3.setCell ⟨w.heap.size + 1, 2, none⟩ (.slice (some ⟨gg, 0, none⟩) (k + 1) cap))) ∨ (Value.nilIface = E ∧ k + 1 = es.length ∧ Value.int .i64 ((k : Int) + 1) = .int .i64 (((k + 1 : Nat) : Int) + 1))) := by
  have hAR : R.ownBlock ≠ some w.heap.size := own_ne HO HA (by decide)
  have hBR : R.ownBlock ≠ some (w.heap.size + 1) := own_ne HO1 HB1 (by decide)
  refine ⟨by simp [HRS], hlt, by push_cast; omega, heap_chg HA kc (by rintro (h | h | h); omega; exact hAR h; omega), heap_set HB3 2 _, ?_, ?_, ?_, .inl ⟨rfl, by push_cast; rfl, HI⟩⟩
  · have h1 := own_ne HO3 HB3 (by decide)
    have h2 := ownsRow_setCell_other HO3 (a := ⟨w.heap.size + 1, 2, none⟩) h1 (.slice (some ⟨gg, 0, none⟩) (k + 1) cap)
    rw [flat_append]
    have e1 : flat RowV.cells [(⟨A2, c2, x.h, us2⟩ : RowV)] = [.slice A2 x.l.length c2, .int .i64 x.h] := by simp [flat, RowV.cells, HL2]
    rw [e1]
    exact h2
  · intro j e r he hr
    have lA := lt_of_heap HB1
    rcases Nat.lt_or_ge j k with h | h
    · rw [List.getElem?_append_left (by omega)] at hr
      have hrow := HK j e r he hr
      refine hrow.chg kc (fun z hz hS => ?_)
      rcases hS with hS | hS | hS
      · have := own_ge hrow.own hz
        omega
      · exact own_own hrow.own HO (by decide) z hz hS
      · exact own_ne hrow.own HB (by decide) (by rw [hz, hS])
    · rw [List.getElem?_append_right (by omega), HRS] at hr
      have hj : j = k := by
        rcases Nat.eq_or_lt_of_le h with h | h
        · exact h.symm
        · rw [List.getElem?_eq_none (by simp; omega)] at hr
          cases hr
      subst hj
      rw [Nat.sub_self] at hr
      obtain rfl : (⟨A2, c2, x.h, us2⟩ : RowV) = r := Option.some.inj hr
      obtain rfl : e = x := Option.some.inj (he.symm.trans HX)
      refine ⟨rfl, HL2, HU2, ?_⟩
      show World.ownsRow _ _ _ _ (.slice A2 us2.length c2) us2.length (flat VV.cells us2)
      rw [HL2]
      have k1 : Chg (fun z => R.ownBlock = some z ∨ z = w.heap.size + 1) w2 w3 := ((Chg.refl _ w2).alloc _).next (Chg.of_grown HG3) (fun z _ h => .inl h.symm)
      refine own_chg (own_mono HO2 (by omega)) (k1.setCell (p := ⟨w.heap.size + 1, 2, none⟩) (.inl (.inr rfl)) _) (fun z hz hS => ?_)
      have hge := own_ge HO2 hz
      rcases hS with hS | hS
      · have := own_lt HO1 hS
        omega
      · omega
  · exact HW.next kc (fun z hz h => by
      rcases h with h | h | h
      · exact h
      · have := own_ge HO h; omega
      · omega)

theorem walk_fin {n : Int} {hit : Bool} {es : List XE} {b k : Nat} {w wr W : World} {rs : List RowV} {R : Value} {cs : Array Value} (hA : wr.heap[w.heap.size]? = some (.cells cs 52 (0, 0)))
    (hown : wr.ownsRow w.heap.size 49 2 R k (flat RowV.cells rs)) (hok : RowsOk w.heap.size wr es rs) (hW : Chg (fun x => x = b) w wr) (hc : Chg (fun x => x = w.heap.size) wr W) (hrs : rs.length = k) (hk : k ≤ es.length) (hkn : (k : Int) ≤ n) (hor : (k : Int) = n ∨ k = es.length) :
    WalkP n hit es b w (.returned (.agg #[.int .i64 0, .bool hit, R])) W := by
  refine ⟨R, k, rs, rfl, own_chg hown hc (fun x hx h => own_ne hown hA (by decide) (by rw [hx, h])), hrs, hk, hkn, hor, fun j e r he hr => (hok j e r he hr).chg hc (fun x hx h => own_ne (hok j e r he hr).own hA (by decide) (by rw [hx, h])), hW.next hc (fun x hx h => by omega)⟩

set_option maxRecDepth 100000 in
set_option maxHeartbeats 3200000 in
theorem walk_next (b : Nat) (n : Int) (hit : Bool) (es : List XE) (It : Nat → World → Prop) (E : Value) (w : World) (h0 : 0 ≤ n) (h1 : n ≤ 1000000) (lb : b < w.heap.size) (hE : ∃ a, E = .iface 246 (.pointer (some a))) (hI : It 0 w)
    (HS : Hid (∀ k x w1, Chg (fun x => x = b) w w1 → It k w1 → es[k]? = some x → Calls Tryd.prog 165 #[.pointer (some ⟨b, 0, none⟩)] w1 (Got2 x b (It (k + 1)) w1)))
    (HE : Hid (∀ w1, Chg (fun x => x = b) w w1 → It es.length w1 → Calls Tryd.prog 165 #[.pointer (some ⟨b, 0, none⟩)] w1 (fun y w' => y = .returned (.tuple #[.slice none 0 0, .int .i64 (-1), E]) ∧ Below w1.heap.size w1 w')))
    (HC : Hid (∀ k w1 w2 (S : Nat → Prop), It k w1 → Chg S w1 w2 → ¬ S b → It k w2))
    (HD : Hid (∀ (k : Nat) (x : XE) (w1 : World), Chg (fun x => x = b) w w1 → es[k]? = some x → Calls Tryd.prog 39 #[.slice x.A x.m x.p] w1 (OutsPost x.l w1))) :
    Calls Tryd.prog 60 #[.iface 189 (.pointer (some ⟨b, 0, none⟩)), .nilIface, .int .i64 n, .bool true, .bool hit] w (WalkP n hit es b w) := by
  obtain ⟨i0, hi, hz0, hz1, hz2⟩ := info_parts info_irow
  obtain ⟨aE, rfl⟩ := hE
  have HI := Lib.hid hI
  clear hI
  go_enter Tryd.func60, Tryd.ntmps60
  go_wp2
  go_loopw [1, 12] (fun er i wr => ∃ (k : Nat) (rs : List RowV) (R : Value), rs.length = k ∧ k ≤ es.length ∧ (k : Int) ≤ n ∧
      wr.heap[w.heap.size]? = some (.cells #[.int .i64 0, .bool false, .slice none 0 0] 52 (0, 0)) ∧ wr.heap[w.heap.size + 1]? = some (.cells #[.int .i64 0, .bool hit, R] 52 (0, 0)) ∧
      wr.ownsRow w.heap.size 49 2 R k (flat RowV.cells rs) ∧ RowsOk w.heap.size wr es rs ∧ Chg (fun x => x = b) w wr ∧
      ((er = .nilIface ∧ i = .int .i64 k ∧ It k wr) ∨ (er = .iface 246 (.pointer (some aE)) ∧ k = es.length ∧ i = .int .i64 (k + 1)))) (fun _ i _ => (n + 2 - intOf i).toNat)
  case atStart =>
    refine ⟨0, [], .slice none 0 0, rfl, Nat.zero_le _, h0, ?_, ?_, World.ownsRow_nil _ _ _ _, fun j e r _ h => by simp at h, ((Chg.refl _ _).alloc _).alloc _, .inl ⟨rfl, rfl, HC.out 0 w _ (fun _ => False) HI.out (((Chg.refl _ _).alloc _).alloc _) id⟩⟩
    · exact (heap_alloc_ne _ _ _ (by simp)).trans (heap_new w _)
    · have := heap_new (w.alloc (.cells #[.int .i64 0, .bool false, .slice none 0 0] 52)) (.cells #[.int .i64 0, .bool hit, .slice none 0 0] 52)
      simpa using this
  case round =>
    obtain ⟨k, rs, R, hrs, hk, hkn, hA, hB, hown, hok, hch, hor⟩ := hrel
    have HA := Lib.hid hA
    have HB := Lib.hid hB
    have HO := Lib.hid hown
    have HK := Lib.hid hok
    have HW := Lib.hid hch
    have HRS := Lib.hid hrs
    have hs := hch.size
    clear hA hB hown hok hch hrs
    rcases hor with ⟨rfl, rfl, hI⟩ | ⟨rfl, hke, rfl⟩
    · by_cases hlt : (k : Int) < n
      · have b2 : wr.cell? ⟨w.heap.size + 1, 2, none⟩ = some R := cell_of_heap HB.out 2
        have g2 : wr.frozen? ⟨w.heap.size + 1, 2, none⟩ = false := free_of_heap HB.out 2
        have hkw : IntKind.i64.wrap ((k : Int) + 1) = (k : Int) + 1 := IntWalk.i64_in _ (by omega)
        rcases Nat.lt_or_ge k es.length with hlt2 | hge
        · obtain ⟨x, hx⟩ : ∃ x, es[k]? = some x := ⟨_, List.getElem?_eq_getElem hlt2⟩
          have HX := Lib.hid hx
          have HN := Lib.hid (HS.out k x wr HW.out hI hx)
          clear hx hI b2 g2
          go_wp2_with (go_at_call 165
                       refine HN.out.mono ?_
                       rintro y w1 ⟨rfl, hI1, hc1⟩
                       have HI1 := Lib.hid hI1
                       have HC1 := Lib.hid hc1
                       have hs1 := hc1.size
                       clear hI1 hc1)
          have hW1 : Chg (fun z => z = b) w w1 := HW.out.trans HC1.out
          have HW1 := Lib.hid hW1
          have HA1 := Lib.hid (heap_chg HA.out HC1.out (by omega))
          have HB1 := Lib.hid (heap_chg HB.out HC1.out (by omega))
          have HO1 := Lib.hid (own_chg HO.out HC1.out (fun z hz h => by have := own_ge HO.out hz; omega))
          have lA := lt_of_heap HB1.out
          have b2 : w1.cell? ⟨w.heap.size + 1, 2, none⟩ = some R := cell_of_heap HB1.out 2
          clear hW1
          go_region_law
            (first
              | (refine step_append_lies _ (by rfl) _ _ _ (by rfl) w.heap.size 49 i0 _ 2 32 Tryd.underlying37 hi hz0 hz1 hz2 rfl (by omega) R k (flat RowV.cells rs) (by rfl) ((own_below HO1.out HB2.out).alloc _)
                  ⟨w2.heap.size, 0, none⟩ 1 1 [.slice A2 x.l.length c2, .int .i64 x.h] (by rfl) (by rfl) (World.news_of_block (cs := #[.slice A2 x.l.length c2, .int .i64 x.h]) (t := 49) (fr := (0, 0)) (heap_new w2 _)) (by simp [Value.oneCell'])
                  (by omega) (by simp only [maxLen]; omega) (by omega) (by have := HB2.out.size; simp; omega) (w2.heap.size + 1) (by simp) ?_
                 intro gg cap w3 hown3 hgrow hat hlt
                 have HG3 := Lib.hid hgrow
                 have HO3 := Lib.hid hown3
                 have HB3 : Hid (w3.heap[w.heap.size + 1]? = some (.cells #[.int .i64 0, .bool hit, R] 52 (0, 0))) := Lib.hid ((hgrow.block _ (by have := HB2.out.size; simp; omega) (Ne.symm (own_ne HO1.out HB1.out (by decide)))).trans ((heap_alloc_ne _ _ _ (by have := HB2.out.size; omega)).trans ((HB2.out.block _ lA).trans HB1.out)))
                 have c3 : w3.cell? ⟨w.heap.size + 1, 2, none⟩ = some R := cell_of_heap HB3.out 2
                 have f3 : w3.frozen? ⟨w.heap.size + 1, 2, none⟩ = false := free_of_heap HB3.out 2
                 clear hgrow hown3)
              | (go_simp; go_at_call 39
                 refine (HD.out k x _ (by first | exact HW1.out | exact HW1.out.drew) HX.out).mono ?_
                 rintro y w2 ⟨A2, c2, us2, rfl, hown2, hlen2, hout2, hb2⟩
                 have HB2 : Hid (Below w1.heap.size w1 w2) := (by first | exact Lib.hid hb2 | exact Lib.hid ⟨hb2.os, hb2.tape, hb2.output, hb2.size, hb2.block⟩)
                 have HO2 : Hid (w2.ownsRow w1.heap.size 58 5 (.slice A2 x.l.length c2) x.l.length (flat VV.cells us2)) := Lib.hid hown2
                 have HL2 := Lib.hid hlen2
                 have HU2 := Lib.hid hout2
                 have d2 : w2.cell? ⟨w.heap.size + 1, 2, none⟩ = some R := (World.cell?_of_block (HB2.out.block _ lA)).trans b2
                 have d3 : (w2.alloc (.cells #[.slice A2 x.l.length c2, .int .i64 x.h] 49)).cell? ⟨w.heap.size + 1, 2, none⟩ = some R := (World.cell?_of_block (heap_alloc_ne w2 (w.heap.size + 1) _ (by have := HB2.out.size; omega))).trans d2
                 clear hb2 hown2 hlen2 hout2))
          all_goals
            go_wp2
            have kc := walk_kc (a := w.heap.size + 1) HC1.out HB2.out HG3.out (.slice (some ⟨gg, 0, none⟩) (k + 1) cap)
            exact ⟨⟨k + 1, rs ++ [⟨A2, c2, x.h, us2⟩], .slice (some ⟨gg, 0, none⟩) (k + 1) cap, walk_step lb HA.out HB.out HO.out HK.out HW.out HRS.out HX.out hlt2 (by omega) kc HB3.out HO1.out HB1.out HO2.out HL2.out HU2.out HG3.out HO3.out (HC.out (k + 1) w1 _ _ HI1.out (walk_kc2 (a := w.heap.size + 1) HB2.out HG3.out _) (by rintro (h | h); exact absurd (own_ge HO1.out h) (by omega); omega))⟩, by simp [intOf]; omega⟩
        · have hke : k = es.length := by omega
          have HN := Lib.hid (HE.out wr HW.out (hke ▸ hI))
          clear hI
          go_wp2_with (go_at_call 165
                       refine HN.out.mono ?_
                       rintro y w1 ⟨rfl, hb1⟩
                       have HB1 := Lib.hid hb1
                       have hs1 := hb1.size
                       clear hb1)
          exact ⟨⟨k, rs, R, HRS.out, hk, hkn, heap_below HA.out HB1.out, heap_below HB.out HB1.out, own_below HO.out HB1.out, fun j e r he hr => (HK.out j e r he hr).chg (Chg.of_below (S := fun _ => False) HB1.out) (fun _ _ h => h), HW.out.trans (Chg.of_below HB1.out), .inr ⟨rfl, hke, by rw [hke]⟩⟩, by simp [intOf]; omega⟩
      · obtain ⟨A', c', rfl⟩ := own_form HO.out
        have a0 := cell_of_heap HA.out 0
        have a1 := cell_of_heap HA.out 1
        have a2 := cell_of_heap HA.out 2
        have b0 := cell_of_heap HB.out 0
        have b1 := cell_of_heap HB.out 1
        have b2 := cell_of_heap HB.out 2
        have g0 := free_of_heap HA.out 0
        have g1 := free_of_heap HA.out 1
        have g2 := free_of_heap HA.out 2
        have hn' := hk
        go_wp2
        obtain ⟨W, hW⟩ : ∃ W, W = ((wr.setCell ⟨w.heap.size, 0, none⟩ (.int .i64 0)).setCell ⟨w.heap.size, 1, none⟩ (.bool hit)).setCell ⟨w.heap.size, 2, none⟩ (.slice A' k c') := ⟨_, rfl⟩
        rw [← hW]
        have hh : W.heap[w.heap.size]? = some (.cells #[.int .i64 0, .bool hit, .slice A' k c'] 52 (0, 0)) := by rw [hW, heap_setCell_at, heap_setCell_at, heap_setCell_at, HA.out]; rfl
        have d0 : W.cell? ⟨w.heap.size, 0, none⟩ = some (.int .i64 0) := cell_of_heap hh 0
        have d1 : W.cell? ⟨w.heap.size, 1, none⟩ = some (.bool hit) := cell_of_heap hh 1
        have d2 : W.cell? ⟨w.heap.size, 2, none⟩ = some (.slice A' k c') := cell_of_heap hh 2
        refine bodyPost_ret (v := .agg #[.int .i64 0, .bool hit, .slice A' k c']) (by simp [results, Tryd.results60, go_sem, d0, d1, d2]) rfl ?_
        exact walk_fin HA.out HO.out HK.out HW.out (hW ▸ Chg.setCell (Chg.setCell (Chg.setCell (Chg.refl (fun x => x = w.heap.size) wr) (p := ⟨w.heap.size, _, none⟩) (.inl rfl) _) (p := ⟨w.heap.size, _, none⟩) (.inl rfl) _) (p := ⟨w.heap.size, _, none⟩) (.inl rfl) _) HRS.out hk hkn (by omega)
    · subst hke
      obtain ⟨A', c', rfl⟩ := own_form HO.out
      have a0 := cell_of_heap HA.out 0
      have a1 := cell_of_heap HA.out 1
      have a2 := cell_of_heap HA.out 2
      have b0 := cell_of_heap HB.out 0
      have b1 := cell_of_heap HB.out 1
      have b2 := cell_of_heap HB.out 2
      have g0 := free_of_heap HA.out 0
      have g1 := free_of_heap HA.out 1
      have g2 := free_of_heap HA.out 2
      have hn' := hk
      go_wp2
      obtain ⟨W, hW⟩ : ∃ W, W = ((wr.setCell ⟨w.heap.size, 0, none⟩ (.int .i64 0)).setCell ⟨w.heap.size, 1, none⟩ (.bool hit)).setCell ⟨w.heap.size, 2, none⟩ (.slice A' es.length c') := ⟨_, rfl⟩
      rw [← hW]
      have hh : W.heap[w.heap.size]? = some (.cells #[.int .i64 0, .bool hit, .slice A' es.length c'] 52 (0, 0)) := by rw [hW, heap_setCell_at, heap_setCell_at, heap_setCell_at, HA.out]; rfl
      have d0 : W.cell? ⟨w.heap.size, 0, none⟩ = some (.int .i64 0) := cell_of_heap hh 0
      have d1 : W.cell? ⟨w.heap.size, 1, none⟩ = some (.bool hit) := cell_of_heap hh 1
      have d2 : W.cell? ⟨w.heap.size, 2, none⟩ = some (.slice A' es.length c') := cell_of_heap hh 2
      refine bodyPost_ret (v := .agg #[.int .i64 0, .bool hit, .slice A' es.length c']) (by simp [results, Tryd.results60, go_sem, d0, d1, d2]) rfl ?_
      exact walk_fin HA.out HO.out HK.out HW.out (hW ▸ Chg.setCell (Chg.setCell (Chg.setCell (Chg.refl (fun x => x = w.heap.size) wr) (p := ⟨w.heap.size, _, none⟩) (.inl rfl) _) (p := ⟨w.heap.size, _, none⟩) (.inl rfl) _) (p := ⟨w.heap.size, _, none⟩) (.inl rfl) _) HRS.out hk hkn (by omega)

end Go.Proofs.YtffgkocokkhahaaDoor
