/-
  Plain lemmas on the floats of Ieee: a common scale for both formats, what is read back exactly, float32 as float64 and back. Nothing of Go here. || The values of the database as plain data, and their order. Nothing of Go's memory here. || The kinds of values by their names, and which values are valid. Plain data; nothing of Go's memory here. || The walks of the small functions: width, isIdeal, isFloat, bits, zzFits1. || Lists of values in memory; laws.zzFits2 of them.
-/
import Ieee.Arith
import GoSem.Op.String
import GoSem.Core.View
import Derived.Test.YtffgkocokkhahaaDoorRows
import Derived.WalkKit
import Derived.WalkSpells
import Derived.WalkLawsBesides
import Derived.Deep.QuietTactic
import Derived.BigQuiet
import Derived.Lib.Hide

/- Plain lemmas on the floats of Ieee: a common scale for both formats, what is read back exactly, float32 as float64 and back. Nothing of Go here. -/
namespace Go.Proofs.YtffgkocokkhahaaDoor.Flt
open Ieee

theorem signed_scale (s : Bool) (m a c : Nat) : signed s m (a + c) = signed s m a * 2 ^ c := by
  unfold signed
  simp only [Nat.shiftLeft_eq, Nat.pow_add]
  split <;> push_cast <;> simp [Int.neg_mul, Int.mul_assoc]

theorem compare_scale (x y : Int) {k : Int} (hk : 0 < k) : compare (x * k) (y * k) = compare x y := by
  simp only [compare, compareOfLessAndEq]
  have h1 : x * k < y * k ↔ x < y := ⟨fun h => Int.lt_of_mul_lt_mul_right h (Int.le_of_lt hk), fun h => Int.mul_lt_mul_of_pos_right h hk⟩
  have h2 : x * k = y * k ↔ x = y := ⟨fun h => Int.eq_of_mul_eq_mul_right (Int.ne_of_gt hk) h, fun h => by rw [h]⟩
  simp only [h1, h2]

/-- A number beyond all that a format has, on the common scale. -/
def big : Int := ((2 ^ 4000 : Nat) : Int)

theorem big_pos : 0 < big := (Int.ofNat_lt (n := 0)).2 (Nat.two_pow_pos 4000)

/-- What a datum stands for on the scale of 2^-1074. -/
def key : Datum → Option Int
  | .nan .. => none
  | .infinity s => some (if s then -big else big)
  | .number s m p => some (signed s m (p + 1074).toNat)

def fits : Datum → Prop
  | .number _ m p => m < 2 ^ 64 ∧ -1074 ≤ p ∧ p ≤ 2000
  | _ => True

theorem signed_bound (s : Bool) (m a : Nat) (hm : m < 2 ^ 64) (ha : a ≤ 3074) : -big < signed s m a ∧ signed s m a < big := by
  have h1 : m <<< a < 2 ^ 4000 := by
    rw [Nat.shiftLeft_eq]
    calc m * 2 ^ a < 2 ^ 64 * 2 ^ a := Nat.mul_lt_mul_of_pos_right hm (Nat.two_pow_pos _)
      _ = 2 ^ (64 + a) := (Nat.pow_add ..).symm
      _ ≤ 2 ^ 4000 := Nat.pow_le_pow_right (by decide) (by omega)
  have h2 : ((m <<< a : Nat) : Int) < big := by
    exact Int.ofNat_lt.2 h1
  have h0 : (0 : Int) ≤ ((m <<< a : Nat) : Int) := Int.natCast_nonneg _
  unfold signed
  generalize ((m <<< a : Nat) : Int) = z at *
  generalize big = B at *
  split <;> omega

theorem order_key {d e : Datum} (hd : fits d) (he : fits e) : d.order e = (key d).bind fun x => (key e).map fun y => compare x y := by
  cases d with
  | nan => cases e <;> rfl
  | infinity s =>
    cases e with
    | nan => rfl
    | infinity t => cases s <;> cases t <;> decide +kernel
    | number t n j =>
      obtain ⟨h1, h2, h3⟩ := he
      have hb := signed_bound t n (j + 1074).toNat h1 (by omega)
      simp only [Datum.order, key, Option.bind_some, Option.map_some]
      generalize signed t n (j + 1074).toNat = z at *
      generalize big = B at *
      cases s <;> simp only [compare, compareOfLessAndEq, if_true, if_false, Bool.false_eq_true]
      · rw [if_neg (by omega), if_neg (by omega)]
      · rw [if_pos (by omega)]
  | number s m i =>
    obtain ⟨g1, g2, g3⟩ := hd
    cases e with
    | nan => rfl
    | infinity t =>
      have hb := signed_bound s m (i + 1074).toNat g1 (by omega)
      simp only [Datum.order, key, Option.bind_some, Option.map_some]
      generalize signed s m (i + 1074).toNat = z at *
      generalize big = B at *
      cases t <;> simp only [compare, compareOfLessAndEq, if_true, if_false, Bool.false_eq_true]
      · rw [if_pos (by omega)]
      · rw [if_neg (by omega), if_neg (by omega)]
    | number t n j =>
      obtain ⟨h1, h2, h3⟩ := he
      simp only [Datum.order, key, Option.bind_some, Option.map_some]
      have e1 : (i + 1074).toNat = (i - min i j).toNat + (min i j + 1074).toNat := by omega
      have e2 : (j + 1074).toNat = (j - min i j).toNat + (min i j + 1074).toNat := by omega
      rw [e1, e2, signed_scale, signed_scale, compare_scale _ _ (Int.pow_pos (by decide))]


theorem fits_double (w : Nat) : fits (double.read w) := by
  have e1 : double.binade = 4503599627370496 := by decide +kernel
  have e2 : double.leastPlace = -1074 := by decide +kernel
  have e3 : double.infRung = 2047 * 4503599627370496 := by decide +kernel
  unfold Format.read
  simp only [e1, e2, e3]
  generalize w % double.signWeight = r
  split
  · exact ⟨by omega, by omega, by omega⟩
  · split
    · refine ⟨by omega, by omega, by omega⟩
    · split <;> trivial

theorem fits_single (w : Nat) : fits (single.read w) := by
  have e1 : single.binade = 8388608 := by decide +kernel
  have e2 : single.leastPlace = -149 := by decide +kernel
  have e3 : single.infRung = 255 * 8388608 := by decide +kernel
  unfold Format.read
  simp only [e1, e2, e3]
  generalize w % single.signWeight = r
  split
  · exact ⟨by omega, by omega, by omega⟩
  · split
    · refine ⟨by omega, by omega, by omega⟩
    · split <;> trivial

/-- The number of a double; 'none': it is none. -/
def key64 (w : Nat) : Option Int := key (double.read w)
def key32 (w : Nat) : Option Int := key (single.read w)

theorem order64 (x y : Nat) : double.order x y = (key64 x).bind fun a => (key64 y).map fun b => compare a b := order_key (fits_double x) (fits_double y)
theorem order32 (x y : Nat) : single.order x y = (key32 x).bind fun a => (key32 y).map fun b => compare a b := order_key (fits_single x) (fits_single y)

theorem signed_eq (s : Bool) {m a m' a' : Nat} (h : m * 2 ^ a = m' * 2 ^ a') : signed s m a = signed s m' a' := by
  unfold signed
  simp only [Nat.shiftLeft_eq, h]

theorem mul_add_mod_lt {a b c : Nat} (h : c < b) : (a * b + c) % b = c := by
  rw [Nat.mul_comm, Nat.mul_add_mod, Nat.mod_eq_of_lt h]
theorem mul_add_div_lt {a b c : Nat} (hb : 0 < b) (h : c < b) : (a * b + c) / b = a := by
  rw [Nat.mul_comm, Nat.mul_add_div hb, Nat.div_eq_of_lt h, Nat.add_zero]

/-- The value of a rung, in units of the least place. -/
def rungVal (B r : Nat) : Nat := if r < B then r else (B + r % B) * 2 ^ (r / B - 1)

theorem rungVal_mk {B n k : Nat} (hB : 0 < B) (h1 : k ≤ 2 * B) (h2 : n = 0 ∨ B ≤ k) : rungVal B (n * B + k) = k * 2 ^ n := by
  by_cases hk : k < B
  · obtain rfl : n = 0 := by omega
    simp [rungVal, hk]
  · by_cases hk2 : k = 2 * B
    · subst hk2
      have e : n * B + 2 * B = (n + 2) * B := by rw [Nat.add_mul]
      have hge : ¬ (n + 2) * B < B := by
        have : 1 * B ≤ (n + 2) * B := Nat.mul_le_mul_right _ (by omega)
        omega
      rw [e, rungVal, if_neg hge, Nat.mul_mod_left, Nat.mul_div_cancel _ hB]
      simp only [Nat.add_zero]
      rw [show n + 2 - 1 = n + 1 from rfl, Nat.pow_succ]
      rw [Nat.mul_comm 2 B, Nat.mul_assoc, Nat.mul_comm (2 ^ n) 2]
    · have e : n * B + k = (n + 1) * B + (k - B) := by rw [Nat.add_mul]; omega
      have hlt : k - B < B := by omega
      have hge : ¬ (n + 1) * B + (k - B) < B := by
        have : 1 * B ≤ (n + 1) * B := Nat.mul_le_mul_right _ (by omega)
        omega
      rw [e, rungVal, if_neg hge, mul_add_mod_lt hlt, mul_add_div_lt hB hlt]
      rw [show B + (k - B) = k from by omega, Nat.add_sub_cancel]


theorem cut_zero (neg : Bool) (n : Nat) : Toward.even.cut neg n 0 = n := by
  simp [Toward.cut, Nat.mod_one]

theorem log2_spec {n : Nat} (h : n ≠ 0) : 2 ^ n.log2 ≤ n ∧ n < 2 ^ (n.log2 + 1) := ⟨Nat.log2_self_le h, Nat.lt_log2_self⟩

theorem cut_le (neg : Bool) (n d : Nat) : Toward.even.cut neg n d ≤ n / 2 ^ min d (n.log2 + 2) + 1 := by
  unfold Toward.cut
  simp only [Nat.shiftLeft_eq, Nat.one_mul]
  have : ∀ b : Bool, b.toNat ≤ 1 := fun b => by cases b <;> decide
  exact Nat.add_le_add_left (this _) _

theorem cut_ge (neg : Bool) (n d : Nat) : n / 2 ^ min d (n.log2 + 2) ≤ Toward.even.cut neg n d := by
  unfold Toward.cut
  simp only [Nat.shiftLeft_eq, Nat.one_mul]
  exact Nat.le_add_right _ _

theorem cut_exact (neg : Bool) {n d : Nat} (hn : n ≠ 0) (h : 2 ^ d ∣ n) : Toward.even.cut neg n d * 2 ^ d = n := by
  obtain ⟨c, rfl⟩ := h
  have hc : c ≠ 0 := by rintro rfl; exact hn (by simp)
  have hd : d ≤ (2 ^ d * c).log2 := (Nat.le_log2 hn).2 (Nat.le_mul_of_pos_right _ (Nat.pos_of_ne_zero hc))
  have hm : min d ((2 ^ d * c).log2 + 2) = d := by omega
  unfold Toward.cut
  simp only [Nat.shiftLeft_eq, Nat.one_mul, hm]
  have h2 : 0 < 2 ^ d := Nat.two_pow_pos _
  rw [Nat.mul_div_cancel_left _ h2, Nat.mul_mod_right]
  have e1 : (decide (2 ^ d < 2 * 0) || 2 ^ d == 2 * 0 && c % 2 == 1) = false := by
    simp
  rw [e1]
  simp [Nat.mul_comm]

/-- The parts of the nearest word. -/
theorem nearest_parts (f : Format) (neg : Bool) {mag : Nat} (place : Int) (h : mag ≠ 0) :
    ∃ n kept : Nat, f.nearest neg mag place = f.word neg (min (n * f.binade + kept) f.infRung) ∧ kept ≤ 2 * f.binade ∧ (n = 0 ∨ f.binade ≤ kept) ∧
      (n : Int) + f.leastPlace = max (place + mag.log2 - f.fractionBits) f.leastPlace ∧
      (-1074 ≤ place → -1074 ≤ f.leastPlace → 2 ^ (n + f.leastPlace - place).toNat ∣ mag → kept * 2 ^ (n + f.leastPlace + 1074).toNat = mag * 2 ^ (place + 1074).toNat) := by
  obtain ⟨last, hlast⟩ : ∃ last : Int, last = max (place + mag.log2 - f.fractionBits) f.leastPlace := ⟨_, rfl⟩
  obtain ⟨kept, hkept⟩ : ∃ kept : Nat, kept = Toward.even.cut neg (mag <<< (place - last).toNat) (last - place).toNat := ⟨_, rfl⟩
  have hn : ((last - f.leastPlace).toNat : Int) + f.leastPlace = last := by omega
  have hlog := log2_spec h
  refine ⟨(last - f.leastPlace).toNat, kept, ?_, ?_, ?_, by rw [hn]; exact hlast, ?_⟩
  · unfold Format.nearest
    rw [if_neg h]
    simp only [← hlast, ← hkept]
  · -- kept is at most two binades
    unfold Format.binade at *
    rcases Int.le_total last place with hle | hle
    · have e0 : (last - place).toNat = 0 := by omega
      rw [e0, cut_zero, Nat.shiftLeft_eq] at hkept
      rw [hkept]
      have : mag * 2 ^ (place - last).toNat < 2 ^ (mag.log2 + 1) * 2 ^ (place - last).toNat := Nat.mul_lt_mul_of_pos_right hlog.2 (Nat.two_pow_pos _)
      have h2 : 2 ^ (mag.log2 + 1) * 2 ^ (place - last).toNat ≤ 2 ^ (f.fractionBits + 1) := by
        rw [← Nat.pow_add]
        exact Nat.pow_le_pow_right (by decide) (by omega)
      have h3 : 2 ^ (f.fractionBits + 1) = 2 ^ f.fractionBits * 2 := Nat.pow_succ ..
      omega
    · have e0 : (place - last).toNat = 0 := by omega
      rw [e0, Nat.shiftLeft_zero] at hkept
      have hc := cut_le neg mag (last - place).toNat
      rw [← hkept] at hc
      have hq : mag / 2 ^ min (last - place).toNat (mag.log2 + 2) < 2 ^ (f.fractionBits + 1) := by
        rw [Nat.div_lt_iff_lt_mul (Nat.two_pow_pos _), ← Nat.pow_add]
        exact Nat.lt_of_lt_of_le hlog.2 (Nat.pow_le_pow_right (by decide) (by omega))
      rw [Nat.pow_succ] at hq
      omega
  · by_cases hz : (last - f.leastPlace).toNat = 0
    · exact .inl hz
    · refine .inr ?_
      have hl2 : last = place + mag.log2 - f.fractionBits := by omega
      unfold Format.binade
      rcases Int.le_total last place with hle | hle
      · have e0 : (last - place).toNat = 0 := by omega
        rw [e0, cut_zero, Nat.shiftLeft_eq] at hkept
        rw [hkept]
        have : 2 ^ mag.log2 * 2 ^ (place - last).toNat ≤ mag * 2 ^ (place - last).toNat := Nat.mul_le_mul_right _ hlog.1
        rw [← Nat.pow_add] at this
        rwa [show mag.log2 + (place - last).toNat = f.fractionBits from by omega] at this
      · have e0 : (place - last).toNat = 0 := by omega
        rw [e0, Nat.shiftLeft_zero] at hkept
        have hc := cut_ge neg mag (last - place).toNat
        rw [← hkept] at hc
        refine Nat.le_trans ?_ hc
        rw [Nat.le_div_iff_mul_le (Nat.two_pow_pos _), ← Nat.pow_add]
        exact Nat.le_trans (Nat.pow_le_pow_right (by decide) (by omega)) hlog.1
  · intro hp hlp hd
    rw [hn] at hd ⊢
    rcases Int.le_total last place with hle | hle
    · have e0 : (last - place).toNat = 0 := by omega
      rw [e0, cut_zero, Nat.shiftLeft_eq] at hkept
      rw [hkept, Nat.mul_assoc, ← Nat.pow_add]
      congr 2
      omega
    · have e0 : (place - last).toNat = 0 := by omega
      rw [e0, Nat.shiftLeft_zero] at hkept
      have hx := cut_exact neg h hd
      rw [← hkept] at hx
      rw [show (last + 1074).toNat = (last - place).toNat + (place + 1074).toNat from by omega, Nat.pow_add, ← Nat.mul_assoc, hx]


theorem word_split (f : Format) (neg : Bool) {r : Nat} (h : r < f.signWeight) : (f.word neg r / f.signWeight % 2 == 1) = neg ∧ f.word neg r % f.signWeight = r := by
  have hpos : 0 < f.signWeight := Nat.two_pow_pos _
  unfold Format.word
  cases neg
  · simp only [Bool.false_eq_true, if_false]
    rw [Nat.div_eq_of_lt h, Nat.mod_eq_of_lt h]
    exact ⟨rfl, rfl⟩
  · simp only [if_true]
    rw [Nat.add_mod_left, Nat.mod_eq_of_lt h, Nat.add_div_left _ hpos, Nat.div_eq_of_lt h]
    exact ⟨rfl, rfl⟩

theorem infRung_lt (f : Format) : f.infRung < f.signWeight := by
  have h : 0 < 2 ^ f.exponentBits := Nat.two_pow_pos _
  have h2 : 0 < f.binade := Nat.two_pow_pos _
  unfold Format.infRung Format.signWeight
  rw [Nat.pow_add, Nat.sub_mul]
  have : 1 * f.binade ≤ 2 ^ f.exponentBits * f.binade := Nat.mul_le_mul_right _ h
  unfold Format.binade at *
  omega

/-- Reading a word of a finite rung. -/
theorem key_word (f : Format) (neg : Bool) {r : Nat} (h : r < f.infRung) (hlp : -1074 ≤ f.leastPlace) :
    key (f.read (f.word neg r)) = some (signed neg (rungVal f.binade r) (f.leastPlace + 1074).toNat) ∧ (f.read (f.word neg r)).neg = neg ∧ (f.read (f.word neg r)).isNaN = false ∧ (f.read (f.word neg r)).isInfinity = false := by
  have hi := infRung_lt f
  obtain ⟨h1, h2⟩ := word_split f neg (Nat.lt_trans h hi)
  unfold Format.read
  simp only [h1, h2]
  unfold rungVal
  by_cases hb : r < f.binade
  · rw [if_pos hb, if_pos hb]
    exact ⟨rfl, rfl, rfl, rfl⟩
  · rw [if_neg hb, if_neg hb, if_pos h]
    refine ⟨?_, rfl, rfl, rfl⟩
    unfold key
    refine congrArg some (signed_eq neg ?_)
    rw [Nat.mul_assoc, ← Nat.pow_add]
    congr 2
    omega

/-- What is exact is read back. -/
theorem key_nearest (f : Format) (neg : Bool) (mag : Nat) (place : Int) (hp : -1074 ≤ place) (hlp : -1074 ≤ f.leastPlace)
    (hd : 2 ^ (max (place + mag.log2 - f.fractionBits) f.leastPlace - place).toNat ∣ mag) (h0 : 0 < f.infRung)
    (hr : place + mag.log2 - f.fractionBits < f.infRung / f.binade - 2 + f.leastPlace) (hlow : 2 < f.infRung / f.binade) :
    key (f.read (f.nearest neg mag place)) = some (signed neg mag (place + 1074).toNat) ∧ (f.read (f.nearest neg mag place)).neg = neg ∧ (f.read (f.nearest neg mag place)).isInfinity = false := by
  by_cases hm : mag = 0
  · subst hm
    unfold Format.nearest
    rw [if_pos rfl]
    obtain ⟨k1, k2, _, k4⟩ := key_word f neg h0 hlp
    rw [k1]
    refine ⟨congrArg some (signed_eq neg ?_), k2, k4⟩
    have : rungVal f.binade 0 = 0 := by
      have : 0 < f.binade := Nat.two_pow_pos _
      simp [rungVal, this]
    rw [this, Nat.zero_mul, Nat.zero_mul]
  · obtain ⟨n, kept, hn, hk1, hk2, hl, hx⟩ := nearest_parts f neg place hm
    have hB : 0 < f.binade := Nat.two_pow_pos _
    have hq : n + 2 < f.infRung / f.binade := by omega
    have hlt : n * f.binade + kept < f.infRung := by
      have : (n + 3) * f.binade ≤ f.infRung := Nat.le_trans (Nat.mul_le_mul_right _ hq) (Nat.div_mul_le_self _ _)
      rw [Nat.add_mul] at this
      omega
    rw [hn, Nat.min_eq_left (Nat.le_of_lt hlt)]
    obtain ⟨k1, k2, _, k4⟩ := key_word f neg hlt hlp
    rw [k1]
    refine ⟨congrArg some (signed_eq neg ?_), k2, k4⟩
    rw [rungVal_mk hB hk1 hk2]
    have := hx hp hlp (by rw [hl]; exact hd)
    rw [← this, Nat.mul_assoc, ← Nat.pow_add]
    congr 2
    omega


theorem rung_parts {B r : Nat} (hB : 0 < B) : ∃ q K : Nat, r = q * B + K ∧ K < 2 * B ∧ (q = 0 ∨ B ≤ K) ∧ rungVal B r = K * 2 ^ q := by
  by_cases h : r < B
  · exact ⟨0, r, by omega, by omega, .inl rfl, by simp [rungVal, h]⟩
  · have hm : r % B < B := Nat.mod_lt _ hB
    have hd := Nat.div_add_mod r B
    have h1 : 1 ≤ r / B := (Nat.le_div_iff_mul_le hB).2 (by omega)
    obtain ⟨q, hq⟩ : ∃ q, r / B = q + 1 := ⟨r / B - 1, by omega⟩
    refine ⟨q, B + r % B, ?_, by omega, .inr (by omega), by rw [rungVal, if_neg h, hq, Nat.add_sub_cancel]⟩
    rw [hq, Nat.mul_add, Nat.mul_comm B q] at hd
    omega

theorem log2_mul_pow {n a : Nat} (h : n ≠ 0) : (n * 2 ^ a).log2 = n.log2 + a := by
  rw [Nat.log2_eq_iff (Nat.mul_ne_zero h (Nat.ne_of_gt (Nat.two_pow_pos _)))]
  have := log2_spec h
  rw [Nat.pow_add, Nat.add_right_comm, Nat.pow_add _ (n.log2 + 1)]
  exact ⟨Nat.mul_le_mul_right _ this.1, Nat.mul_lt_mul_of_pos_right this.2 (Nat.two_pow_pos _)⟩

/-- A number that a rung stands for is written as that rung. -/
theorem nearest_of_value (f : Format) (neg : Bool) {r mag : Nat} {place : Int} (hr : r < f.infRung) (hp : -1074 ≤ place) (hlp : -1074 ≤ f.leastPlace)
    (hv : mag * 2 ^ (place + 1074).toNat = rungVal f.binade r * 2 ^ (f.leastPlace + 1074).toNat) : f.nearest neg mag place = f.word neg r := by
  have hB : 0 < f.binade := Nat.two_pow_pos _
  obtain ⟨q, K, hrq, hK, hq, hval⟩ := rung_parts (r := r) hB
  rw [hval, Nat.mul_assoc, ← Nat.pow_add] at hv
  by_cases hm : mag = 0
  · subst hm
    rw [Nat.zero_mul] at hv
    have hK0 : K = 0 := by
      rcases Nat.mul_eq_zero.1 hv.symm with h | h
      · exact h
      · exact absurd h (Nat.ne_of_gt (Nat.two_pow_pos _))
    have : q = 0 := by omega
    subst hK0 this
    have hr0 : r = 0 := by omega
    unfold Format.nearest
    rw [if_pos rfl, hr0]
  · have hK0 : K ≠ 0 := by
      rintro rfl
      rw [Nat.zero_mul] at hv
      rcases Nat.mul_eq_zero.1 hv with h | h
      · exact hm h
      · exact absurd h (Nat.ne_of_gt (Nat.two_pow_pos _))
    have hlg := congrArg Nat.log2 hv
    rw [log2_mul_pow hm, log2_mul_pow hK0] at hlg
    have hKl : K.log2 ≤ f.fractionBits := by
      have : K.log2 < f.fractionBits + 1 := (Nat.log2_lt hK0).2 (by unfold Format.binade at hK; rw [Nat.pow_succ]; omega)
      omega
    have hKg : q = 0 ∨ K.log2 = f.fractionBits := by
      rcases hq with h | h
      · exact .inl h
      · exact .inr (Nat.le_antisymm hKl ((Nat.le_log2 hK0).2 h))
    obtain ⟨n, kept, hn, hk1, hk2, hl, hx⟩ := nearest_parts f neg place hm
    have hnq : n = q := by omega
    subst hnq
    have hdv : 2 ^ (n + f.leastPlace - place).toNat ∣ mag := by
      rcases Int.le_total (n + f.leastPlace) place with h | h
      · rw [show (n + f.leastPlace - place).toNat = 0 from by omega]
        exact ⟨mag, by simp⟩
      · refine ⟨K, ?_⟩
        have h2 : 0 < 2 ^ (place + 1074).toNat := Nat.two_pow_pos _
        refine Nat.eq_of_mul_eq_mul_right h2 ?_
        rw [hv, Nat.mul_comm (2 ^ _) K, Nat.mul_assoc, ← Nat.pow_add]
        congr 2
        omega
    have hkK : kept = K := by
      have h2 : 0 < 2 ^ (n + f.leastPlace + 1074).toNat := Nat.two_pow_pos _
      refine Nat.eq_of_mul_eq_mul_right h2 ?_
      rw [hx hp hlp hdv, hv]
      congr 2
      omega
    rw [hn, hkK, ← hrq, Nat.min_eq_left (Nat.le_of_lt hr)]

theorem signed_inj {s : Bool} {m a m' a' : Nat} (h : signed s m a = signed s m' a') : m * 2 ^ a = m' * 2 ^ a' := by
  unfold signed at h
  simp only [Nat.shiftLeft_eq] at h
  cases s <;> simp only [Bool.false_eq_true, if_false, if_true] at h <;> omega

/-- A word's sign and rung. -/
theorem word_of (f : Format) {x : Nat} (hx : x < 2 * f.signWeight) : x = f.word (x / f.signWeight % 2 == 1) (x % f.signWeight) := by
  have hpos : 0 < f.signWeight := Nat.two_pow_pos _
  have hd := Nat.div_add_mod x f.signWeight
  have hlt : x / f.signWeight < 2 := (Nat.div_lt_iff_lt_mul hpos).2 hx
  unfold Format.word
  have h01 : x / f.signWeight = 0 ∨ x / f.signWeight = 1 := by
    generalize x / f.signWeight = d at hlt
    omega
  rcases h01 with h | h
  · rw [h] at hd ⊢
    simp at hd ⊢
    exact hd.symm
  · rw [h] at hd ⊢
    simp at hd ⊢
    exact hd.symm

/-- What reading gives. -/
theorem read_cases (f : Format) (x : Nat) : (x % f.signWeight < f.infRung ∧ ∃ m p, f.read x = .number (x / f.signWeight % 2 == 1) m p ∧ f.leastPlace ≤ p ∧ m * 2 ^ (p - f.leastPlace).toNat = rungVal f.binade (x % f.signWeight) ∧
      m < 2 * f.binade ∧ p < f.infRung / f.binade + f.leastPlace) ∨
    (x % f.signWeight = f.infRung ∧ f.binade ≤ f.infRung ∧ f.read x = .infinity (x / f.signWeight % 2 == 1)) ∨ (f.read x).isNaN = true ∨ f.infRung < f.binade := by
  have hB : 0 < f.binade := Nat.two_pow_pos _
  by_cases hsmall : f.infRung < f.binade
  · exact .inr (.inr (.inr hsmall))
  have hq1 : 1 ≤ f.infRung / f.binade := (Nat.le_div_iff_mul_le hB).2 (by omega)
  unfold Format.read
  simp only
  by_cases h1 : x % f.signWeight < f.binade
  · rw [if_pos h1]
    refine .inl ⟨by omega, _, _, rfl, by omega, ?_, by omega, by omega⟩
    rw [rungVal, if_pos h1, Int.sub_self]
    simp
  · rw [if_neg h1]
    by_cases h2 : x % f.signWeight < f.infRung
    · rw [if_pos h2]
      have h3 : x % f.signWeight / f.binade ≤ f.infRung / f.binade := Nat.div_le_div_right (Nat.le_of_lt h2)
      have h4 : x % f.signWeight % f.binade < f.binade := Nat.mod_lt _ hB
      refine .inl ⟨h2, _, _, rfl, by omega, ?_, by omega, by omega⟩
      rw [rungVal, if_neg h1]
      congr 2
      omega
    · rw [if_neg h2]
      by_cases h3 : x % f.signWeight = f.infRung
      · rw [if_pos h3]
        exact .inr (.inl ⟨h3, by omega, rfl⟩)
      · rw [if_neg h3]
        exact .inr (.inr (.inl rfl))


/-! ### A float32 as a float64, and back -/

def up (x : Nat) : Nat := double.write (single.read x)
def down (F : Nat) : Nat := single.write (double.read F)

theorem s_inf : single.infRung = 255 * 8388608 := by decide +kernel
theorem s_bin : single.binade = 8388608 := by decide +kernel
theorem s_sign : single.signWeight = 2147483648 := by decide +kernel
theorem s_lp : single.leastPlace = -149 := by decide +kernel
theorem d_inf : double.infRung = 2047 * 4503599627370496 := by decide +kernel
theorem d_bin : double.binade = 4503599627370496 := by decide +kernel
theorem d_sign : double.signWeight = 9223372036854775808 := by decide +kernel
theorem d_lp : double.leastPlace = -1074 := by decide +kernel
theorem d_frac : double.fractionBits = 52 := rfl
theorem read_inf_d (s : Bool) : double.read (double.word s double.infRung) = .infinity s := by cases s <;> decide +kernel
theorem read_inf_s (s : Bool) : single.read (single.word s single.infRung) = .infinity s := by cases s <;> decide +kernel

theorem log2_lt_of {m k : Nat} (h : m < 2 ^ (k + 1)) : m.log2 ≤ k := by
  by_cases h0 : m = 0
  · subst h0; simp
  · have := (Nat.log2_lt h0).2 h
    omega

theorem up_number {s : Bool} {m : Nat} {p : Int} (hm : m < 2 ^ 53) (h1 : -1074 ≤ p) (h2 : p ≤ 900) :
    key (double.read (double.nearest s m p)) = some (signed s m (p + 1074).toNat) ∧ (double.read (double.nearest s m p)).neg = s ∧ (double.read (double.nearest s m p)).isInfinity = false := by
  have hl : m.log2 ≤ 52 := log2_lt_of hm
  refine key_nearest double s m p h1 (by rw [d_lp]; omega) ?_ (by rw [d_inf]; omega) ?_ ?_
  · rw [show (max (p + m.log2 - double.fractionBits) double.leastPlace - p).toNat = 0 from by rw [d_lp, d_frac]; omega]
    exact ⟨m, by simp⟩
  · rw [d_inf, d_bin, d_lp, d_frac]; omega
  · rw [d_inf, d_bin]; omega

theorem not_nan_of_key {d : Datum} {k : Int} (h : key d = some k) : d.isNaN = false := by cases d <;> first | rfl | cases h

theorem up_key {x : Nat} (hn : (single.read x).isNaN = false) : key64 (up x) = key32 x ∧ (double.read (up x)).neg = (single.read x).neg ∧ (double.read (up x)).isNaN = false ∧ (double.read (up x)).isInfinity = (single.read x).isInfinity := by
  rcases read_cases single x with ⟨hr, m, p, hx, hp, hv, hm, hq⟩ | ⟨_, _, hx⟩ | h | h
  · rw [s_bin] at hm
    rw [s_lp] at hp
    rw [s_inf, s_bin, s_lp] at hq
    unfold key64 key32 up
    rw [hx]
    obtain ⟨h1, h2, h3⟩ := up_number (s := x / single.signWeight % 2 == 1) (m := m) (p := p) (by omega) (by omega) (by omega)
    exact ⟨h1, h2, not_nan_of_key h1, h3⟩
  · unfold key64 key32 up
    rw [hx]
    simp only [Format.write]
    rw [read_inf_d]
    exact ⟨rfl, rfl, rfl, rfl⟩
  · rw [h] at hn; cases hn
  · rw [s_inf, s_bin] at h; omega

theorem down_up {x : Nat} (hx : x < 4294967296) (hn : (single.read x).isNaN = false) : down (up x) = x := by
  have hw := word_of single (x := x) (by rw [s_sign]; omega)
  obtain ⟨hk, hs, hnn, _⟩ := up_key hn
  rcases read_cases single x with ⟨hr, m, p, hxr, hp, hv, hm, hq⟩ | ⟨he, _, hxr⟩ | h | h
  · rw [s_lp] at hp
    unfold key64 key32 at hk
    rw [hxr] at hk hs
    unfold down
    rcases read_cases double (up x) with ⟨_, m', p', hxr', hp', _, _, _⟩ | ⟨_, _, hxr'⟩ | h' | h'
    · rw [d_lp] at hp'
      rw [hxr'] at hk hs ⊢
      replace hs : (up x / double.signWeight % 2 == 1) = (x / single.signWeight % 2 == 1) := hs
      rw [hs] at hk ⊢
      simp only [key, Option.some.injEq] at hk
      have hk2 := signed_inj hk
      simp only [Format.write]
      rw [nearest_of_value single _ hr hp' (by rw [s_lp]; omega) ?_]
      · exact hw.symm
      · rw [hk2, ← hv, Nat.mul_assoc, ← Nat.pow_add, s_lp]
        congr 2
        omega
    · rw [hxr'] at hk
      rw [s_bin] at hm
      rw [s_inf, s_bin, s_lp] at hq
      have hb := signed_bound (x / single.signWeight % 2 == 1) m (p + 1074).toNat (by omega) (by omega)
      simp only [key, Option.some.injEq] at hk
      rw [← hk] at hb
      generalize hbig : big = B at *
      have hpos : 0 < B := by rw [← hbig]; exact big_pos
      split at hb <;> omega
    · rw [h'] at hnn; cases hnn
    · rw [d_inf, d_bin] at h'; omega
  · unfold down up
    rw [hxr]
    simp only [Format.write]
    rw [read_inf_d]
    rw [← he]
    exact hw.symm
  · rw [h] at hn; cases hn
  · rw [s_inf, s_bin] at h; omega

end Go.Proofs.YtffgkocokkhahaaDoor.Flt

/- The values of the database as plain data, and their order. Nothing of Go's memory here. -/
namespace Go.Proofs.YtffgkocokkhahaaDoor

/-- A value of the database. -/
inductive SV where
  | null
  | bool (b : Bool)
  | int (k : IntKind) (n : Int)
  | f32 (x : Nat)
  | f64 (x : Nat)
  | str (s : ByteArray)
  | blob (s : List UInt8)
  | iInt (n : Int)
  | iRune (n : Int)
  | iUint (n : Int)
  | iFloat (x : Nat)

def SV.isLit : SV → Bool
  | .iInt _ | .iRune _ | .iUint _ | .iFloat _ => true
  | _ => false

def kindRank : IntKind → Int
  | .i8 => 11 | .i16 => 12 | .i32 => 13 | .i64 => 14 | .u8 => 15 | .u16 => 16 | .u32 => 17 | .u64 => 18

def SV.rank : SV → Int
  | .null => 0 | .bool _ => 1 | .iFloat _ => 5 | .f32 _ => 6 | .f64 _ => 7 | .iInt _ => 8 | .iRune _ => 9 | .iUint _ => 10
  | .int k _ => kindRank k | .str _ => 23 | .blob _ => 24

def three (lt eq : Bool) : Int := if lt then -1 else if eq then 0 else 1

def byRank (a b : SV) : Int := if a.rank < b.rank then -1 else if a.rank > b.rank then 1 else 0

def bytesOrd (x y : List UInt8) : Int := three (Op.bytesLess x y) (x == y)

/-- collate1 of values that are no literals'. -/
def SV.coll : SV → SV → Int
  | .null, .null => 0
  | .null, _ => -1
  | .bool _, .null => 1
  | .bool x, .bool y => three (!x && y) (x == y)
  | .bool _, _ => -1
  | .int k x, .int l y => if k = l then three (decide (x < y)) (x == y) else byRank (.int k x) (.int l y)
  | .f32 x, .f32 y => three (Ieee.single.order x y == some .lt) (Ieee.single.order x y == some .eq)
  | .f64 x, .f64 y => three (Ieee.double.order x y == some .lt) (Ieee.double.order x y == some .eq)
  | .str x, .str y => bytesOrd x.toList y.toList
  | .blob x, .blob y => bytesOrd x y
  | _, .null => 1
  | a, b => byRank a b

/-- A value of a type, and a number, if it is a float. -/
def SV.plain : SV → Prop
  | .iInt _ | .iRune _ | .iUint _ | .iFloat _ => False
  | .f32 x => Ieee.single.order x x = some .eq
  | .f64 x => Ieee.double.order x x = some .eq
  | _ => True

/-! ### The order is one -/

def icmp (x y : Int) : Int := if x < y then -1 else if x = y then 0 else 1

/-- A key of the floats on one scale. -/
def SV.key : SV → Int
  | .bool b => if b then 1 else 0
  | .int _ n => n
  | .f32 x => (Flt.key32 x).getD 0
  | .f64 x => (Flt.key64 x).getD 0
  | _ => 0
def SV.text : SV → List UInt8
  | .str s => s.toList
  | .blob s => s
  | _ => []

theorem compare_icmp (x y : Int) : compare x y = if x < y then .lt else if x = y then .eq else .gt := rfl

theorem order_three {o : Option Ordering} {x y : Int} (h : o = some (compare x y)) : three (o == some .lt) (o == some .eq) = icmp x y := by
  subst h
  rw [compare_icmp]
  unfold three icmp
  by_cases h1 : x < y
  · simp [h1]
  · by_cases h2 : x = y
    · simp [h2]
    · simp [h1, h2]

theorem key32_some {x : Nat} (h : Ieee.single.order x x = some .eq) : Flt.key32 x = some ((Flt.key32 x).getD 0) := by
  rw [Flt.order32] at h
  cases hk : Flt.key32 x with
  | none => rw [hk] at h; cases h
  | some k => rfl
theorem key64_some {x : Nat} (h : Ieee.double.order x x = some .eq) : Flt.key64 x = some ((Flt.key64 x).getD 0) := by
  rw [Flt.order64] at h
  cases hk : Flt.key64 x with
  | none => rw [hk] at h; cases h
  | some k => rfl

/-- Lexicographic order of bytes as a number. -/
def tcmp (x y : List UInt8) : Int := bytesOrd x y

theorem bytesLess_irrefl (x : List UInt8) : Op.bytesLess x x = false := by
  induction x with
  | nil => rfl
  | cons a x ih => simp [Op.bytesLess, ih]

theorem bytesLess_trans : ∀ {x y z : List UInt8}, Op.bytesLess x y = true → Op.bytesLess y z = true → Op.bytesLess x z = true
  | _, [], _, h, _ => by cases ‹List UInt8› <;> simp [Op.bytesLess] at h
  | _, _ :: _, [], _, h => by simp [Op.bytesLess] at h
  | [], _ :: _, _ :: _, _, _ => by simp [Op.bytesLess]
  | a :: x, b :: y, c :: z, h1, h2 => by
    simp only [Op.bytesLess, Bool.or_eq_true, decide_eq_true_eq, Bool.and_eq_true, beq_iff_eq] at *
    rcases h1 with h1 | ⟨rfl, h1⟩
    · rcases h2 with h2 | ⟨rfl, h2⟩
      · exact .inl (UInt8.lt_trans h1 h2)
      · exact .inl h1
    · rcases h2 with h2 | ⟨rfl, h2⟩
      · exact .inl h2
      · exact .inr ⟨rfl, bytesLess_trans h1 h2⟩

theorem bytesLess_total : ∀ (x y : List UInt8), Op.bytesLess x y = false → x ≠ y → Op.bytesLess y x = true
  | [], [], _, h => absurd rfl h
  | [], _ :: _, h, _ => by simp [Op.bytesLess] at h
  | _ :: _, [], _, _ => by simp [Op.bytesLess]
  | a :: x, b :: y, h, hne => by
    simp only [Op.bytesLess, Bool.or_eq_false_iff, decide_eq_false_iff_not, Bool.and_eq_false_iff, beq_eq_false_iff_ne, Bool.or_eq_true, decide_eq_true_eq, Bool.and_eq_true, beq_iff_eq] at *
    by_cases hab : a = b
    · subst hab
      refine .inr ⟨rfl, bytesLess_total x y ?_ (fun e => hne (by rw [e]))⟩
      rcases h.2 with h' | h'
      · exact absurd rfl h'
      · exact h'
    · left
      have := h.1
      rcases UInt8.lt_or_lt_of_ne hab with h' | h'
      · exact absurd h' this
      · exact h'


def SV.lex (a b : SV) : Int :=
  if a.rank < b.rank then -1 else if b.rank < a.rank then 1 else if a.key < b.key then -1 else if b.key < a.key then 1 else bytesOrd a.text b.text

theorem lex_ne {a b : SV} (h : a.rank ≠ b.rank) : byRank a b = a.lex b := by
  unfold byRank SV.lex
  by_cases h1 : a.rank < b.rank
  · simp [h1]
  · have h2 : b.rank < a.rank := by omega
    simp [h1, h2]

theorem lex_lt {a b : SV} (h : a.rank < b.rank) : a.lex b = -1 := by
  unfold SV.lex
  rw [if_pos h]
theorem lex_gt {a b : SV} (h : b.rank < a.rank) : a.lex b = 1 := by
  unfold SV.lex
  rw [if_neg (by omega), if_pos h]
theorem lex_eq (a b : SV) (h : a.rank = b.rank) (ht : a.text = b.text) : a.lex b = icmp a.key b.key := by
  have hb : bytesOrd b.text b.text = 0 := by simp [bytesOrd, three, bytesLess_irrefl]
  unfold SV.lex icmp
  rw [if_neg (by omega), if_neg (by omega), ht, hb]
  by_cases h1 : a.key < b.key
  · simp [h1]
  · by_cases h2 : b.key < a.key
    · rw [if_neg h1, if_pos h2, if_neg h1, if_neg (by omega)]
    · rw [if_neg h1, if_neg h2, if_neg h1, if_pos (by omega)]

theorem lex_text (a b : SV) (h : a.rank = b.rank) (hk : a.key = b.key) : a.lex b = bytesOrd a.text b.text := by
  unfold SV.lex
  rw [if_neg (by omega), if_neg (by omega), if_neg (by omega), if_neg (by omega)]

theorem kindRank_inj {k l : IntKind} (h : kindRank k = kindRank l) : k = l := by cases k <;> cases l <;> first | rfl | (exact absurd h (by decide))
theorem kindRank_bounds (k : IntKind) : 11 ≤ kindRank k ∧ kindRank k ≤ 18 := by cases k <;> decide

theorem three_int (x y : Int) : three (decide (x < y)) (x == y) = icmp x y := by
  unfold three icmp
  by_cases h1 : x < y <;> by_cases h2 : x = y <;> simp [h1, h2]

theorem coll_lex {a b : SV} (ha : a.plain) (hb : b.plain) : a.coll b = a.lex b := by
  cases a with
  | null => cases b with
    | null => rfl
    | int k n => have := kindRank_bounds k; exact (lex_lt (by simp only [SV.rank]; omega)).symm
    | _ => first | rfl | exact hb.elim
  | bool x => cases b with
    | bool y => cases x <;> cases y <;> rfl
    | int k n => have := kindRank_bounds k; exact (lex_lt (by simp only [SV.rank]; omega)).symm
    | _ => first | rfl | exact hb.elim
  | int k n =>
    have hk := kindRank_bounds k
    cases b with
    | int l m =>
      simp only [SV.coll]
      by_cases hkl : k = l
      · subst hkl
        rw [if_pos rfl, lex_eq (.int k n) (.int k m) rfl rfl, three_int]
        rfl
      · rw [if_neg hkl]
        exact lex_ne (fun h => hkl (kindRank_inj h))
    | null => exact (lex_gt (by simp only [SV.rank]; omega)).symm
    | _ => first | exact lex_ne (by simp only [SV.rank]; omega) | exact hb.elim
  | f32 x =>
    cases b with
    | f32 y =>
      rw [lex_eq (.f32 x) (.f32 y) rfl rfl]
      simp only [SV.coll, SV.key]
      refine order_three ?_
      rw [Flt.order32, key32_some ha, key32_some hb]
      rfl
    | int k n => have := kindRank_bounds k; exact lex_ne (by simp only [SV.rank]; omega)
    | _ => first | rfl | exact hb.elim
  | f64 x =>
    cases b with
    | f64 y =>
      rw [lex_eq (.f64 x) (.f64 y) rfl rfl]
      simp only [SV.coll, SV.key]
      refine order_three ?_
      rw [Flt.order64, key64_some ha, key64_some hb]
      rfl
    | int k n => have := kindRank_bounds k; exact lex_ne (by simp only [SV.rank]; omega)
    | _ => first | rfl | exact hb.elim
  | str s =>
    cases b with
    | str t => exact (lex_text (.str s) (.str t) rfl rfl).symm
    | int k n => have := kindRank_bounds k; exact lex_ne (by simp only [SV.rank]; omega)
    | _ => first | rfl | exact hb.elim
  | blob s =>
    cases b with
    | blob t => exact (lex_text (.blob s) (.blob t) rfl rfl).symm
    | int k n => have := kindRank_bounds k; exact lex_ne (by simp only [SV.rank]; omega)
    | _ => first | rfl | exact hb.elim
  | _ => exact ha.elim

theorem bytesOrd_cases (x y : List UInt8) : (bytesOrd x y = -1 ∧ Op.bytesLess x y = true) ∨ (bytesOrd x y = 0 ∧ x = y) ∨ (bytesOrd x y = 1 ∧ Op.bytesLess y x = true) := by
  unfold bytesOrd three
  by_cases h : Op.bytesLess x y = true
  · simp [h]
  · by_cases he : x = y
    · subst he; simp [bytesLess_irrefl]
    · have := bytesLess_total x y (by simpa using h) he
      simp [h, he, this]

theorem bytesOrd_chain (x y z : List UInt8) : (bytesOrd x y ≤ 0 → bytesOrd y z ≤ 0 → bytesOrd x z ≤ 0 ∧ (bytesOrd x z = 0 → bytesOrd x y = 0 ∧ bytesOrd y z = 0)) ∧
    (0 ≤ bytesOrd x y → 0 ≤ bytesOrd y z → 0 ≤ bytesOrd x z ∧ (bytesOrd x z = 0 → bytesOrd x y = 0 ∧ bytesOrd y z = 0)) := by
  have irr := bytesLess_irrefl
  have contra : ∀ {p q : List UInt8}, Op.bytesLess p q = true → Op.bytesLess q p = true → False := fun h1 h2 => by
    have := bytesLess_trans h1 h2
    rw [irr] at this
    cases this
  have fwd : ∀ {p q : List UInt8}, Op.bytesLess p q = true → bytesOrd p q = -1 := fun h => by simp [bytesOrd, three, h]
  have bwd : ∀ {p q : List UInt8}, Op.bytesLess q p = true → bytesOrd p q = 1 := fun {p q} h => by
    rcases bytesOrd_cases p q with ⟨_, h2⟩ | ⟨_, rfl⟩ | ⟨h1, _⟩
    · exact (contra h h2).elim
    · rw [irr] at h; cases h
    · exact h1
  rcases bytesOrd_cases x y with ⟨e1, h1⟩ | ⟨e1, h1⟩ | ⟨e1, h1⟩ <;> rcases bytesOrd_cases y z with ⟨e2, h2⟩ | ⟨e2, h2⟩ | ⟨e2, h2⟩
  all_goals rw [e1, e2]
  all_goals first
    | (have := fwd (bytesLess_trans h1 h2); omega)
    | (have := bwd (bytesLess_trans h2 h1); omega)
    | (subst h1; omega)
    | (subst h2; omega)
    | omega

/-- The order chains. -/
theorem lex_chain (a b c : SV) : (a.lex b ≤ 0 → b.lex c ≤ 0 → a.lex c ≤ 0 ∧ (a.lex c = 0 → a.lex b = 0 ∧ b.lex c = 0)) ∧
    (0 ≤ a.lex b → 0 ≤ b.lex c → 0 ≤ a.lex c ∧ (a.lex c = 0 → a.lex b = 0 ∧ b.lex c = 0)) := by
  obtain ⟨t1, t2⟩ := bytesOrd_chain a.text b.text c.text
  unfold SV.lex
  generalize bytesOrd a.text b.text = x at *
  generalize bytesOrd b.text c.text = y at *
  generalize bytesOrd a.text c.text = z at *
  generalize a.rank = r at *
  generalize b.rank = s at *
  generalize c.rank = t at *
  generalize a.key = k at *
  generalize b.key = l at *
  generalize c.key = m at *
  constructor
  · intro h1 h2
    split at h1 <;> split at h2 <;> split <;> omega
  · intro h1 h2
    split at h1 <;> split at h2 <;> split <;> omega

end Go.Proofs.YtffgkocokkhahaaDoor

/- The kinds of values by their names, and which values are valid. Plain data; nothing of Go's memory here. -/
namespace Go.Proofs.YtffgkocokkhahaaDoor

/-- The kinds of values. -/
inductive Kd where
  | null | bool | int (k : IntKind) | f32 | f64 | str | blob | iInt | iRune | iUint | iFloat | other
  deriving DecidableEq

def Kd.lit : Kd → List UInt8
  | .null | .other => []
  | .bool => [98, 111, 111, 108]
  | .int .i8 => [105, 110, 116, 56]
  | .int .i16 => [105, 110, 116, 49, 54]
  | .int .i32 => [105, 110, 116, 51, 50]
  | .int .i64 => [105, 110, 116, 54, 52]
  | .int .u8 => [117, 105, 110, 116, 56]
  | .int .u16 => [117, 105, 110, 116, 49, 54]
  | .int .u32 => [117, 105, 110, 116, 51, 50]
  | .int .u64 => [117, 105, 110, 116, 54, 52]
  | .f32 => [102, 108, 111, 97, 116, 51, 50]
  | .f64 => [102, 108, 111, 97, 116, 54, 52]
  | .str => [115, 116, 114, 105, 110, 103]
  | .blob => [98, 108, 111, 98]
  | .iInt => [105, 100, 101, 97, 108, 73, 110, 116]
  | .iRune => [105, 100, 101, 97, 108, 82, 117, 110, 101]
  | .iUint => [105, 100, 101, 97, 108, 85, 105, 110, 116]
  | .iFloat => [105, 100, 101, 97, 108, 70, 108, 111, 97, 116]

/-- The kind of a name. -/
def Kd.of (l : List UInt8) : Kd :=
  if l == [98, 111, 111, 108] then .bool else
  if l == [105, 110, 116, 56] then .int .i8 else
  if l == [105, 110, 116, 49, 54] then .int .i16 else
  if l == [105, 110, 116, 51, 50] then .int .i32 else
  if l == [105, 110, 116, 54, 52] then .int .i64 else
  if l == [117, 105, 110, 116, 56] then .int .u8 else
  if l == [117, 105, 110, 116, 49, 54] then .int .u16 else
  if l == [117, 105, 110, 116, 51, 50] then .int .u32 else
  if l == [117, 105, 110, 116, 54, 52] then .int .u64 else
  if l == [102, 108, 111, 97, 116, 51, 50] then .f32 else
  if l == [102, 108, 111, 97, 116, 54, 52] then .f64 else
  if l == [115, 116, 114, 105, 110, 103] then .str else
  if l == [98, 108, 111, 98] then .blob else
  if l == [105, 100, 101, 97, 108, 73, 110, 116] then .iInt else
  if l == [105, 100, 101, 97, 108, 82, 117, 110, 101] then .iRune else
  if l == [105, 100, 101, 97, 108, 85, 105, 110, 116] then .iUint else
  if l == [105, 100, 101, 97, 108, 70, 108, 111, 97, 116] then .iFloat else
  if l.isEmpty then .null else .other

theorem Kd.of_lit (l : List UInt8) {kd : Kd} (h : Kd.of l = kd) (hk : kd ≠ .other) : l = kd.lit := by
  subst h
  unfold Kd.of at hk ⊢
  by_cases h : (l == [98, 111, 111, 108]) = true
  · rw [if_pos h]; exact eq_of_beq h
  rw [if_neg h] at hk ⊢
  clear h
  by_cases h : (l == [105, 110, 116, 56]) = true
  · rw [if_pos h]; exact eq_of_beq h
  rw [if_neg h] at hk ⊢
  clear h
  by_cases h : (l == [105, 110, 116, 49, 54]) = true
  · rw [if_pos h]; exact eq_of_beq h
  rw [if_neg h] at hk ⊢
  clear h
  by_cases h : (l == [105, 110, 116, 51, 50]) = true
  · rw [if_pos h]; exact eq_of_beq h
  rw [if_neg h] at hk ⊢
  clear h
  by_cases h : (l == [105, 110, 116, 54, 52]) = true
  · rw [if_pos h]; exact eq_of_beq h
  rw [if_neg h] at hk ⊢
  clear h
  by_cases h : (l == [117, 105, 110, 116, 56]) = true
  · rw [if_pos h]; exact eq_of_beq h
  rw [if_neg h] at hk ⊢
  clear h
  by_cases h : (l == [117, 105, 110, 116, 49, 54]) = true
  · rw [if_pos h]; exact eq_of_beq h
  rw [if_neg h] at hk ⊢
  clear h
  by_cases h : (l == [117, 105, 110, 116, 51, 50]) = true
  · rw [if_pos h]; exact eq_of_beq h
  rw [if_neg h] at hk ⊢
  clear h
  by_cases h : (l == [117, 105, 110, 116, 54, 52]) = true
  · rw [if_pos h]; exact eq_of_beq h
  rw [if_neg h] at hk ⊢
  clear h
  by_cases h : (l == [102, 108, 111, 97, 116, 51, 50]) = true
  · rw [if_pos h]; exact eq_of_beq h
  rw [if_neg h] at hk ⊢
  clear h
  by_cases h : (l == [102, 108, 111, 97, 116, 54, 52]) = true
  · rw [if_pos h]; exact eq_of_beq h
  rw [if_neg h] at hk ⊢
  clear h
  by_cases h : (l == [115, 116, 114, 105, 110, 103]) = true
  · rw [if_pos h]; exact eq_of_beq h
  rw [if_neg h] at hk ⊢
  clear h
  by_cases h : (l == [98, 108, 111, 98]) = true
  · rw [if_pos h]; exact eq_of_beq h
  rw [if_neg h] at hk ⊢
  clear h
  by_cases h : (l == [105, 100, 101, 97, 108, 73, 110, 116]) = true
  · rw [if_pos h]; exact eq_of_beq h
  rw [if_neg h] at hk ⊢
  clear h
  by_cases h : (l == [105, 100, 101, 97, 108, 82, 117, 110, 101]) = true
  · rw [if_pos h]; exact eq_of_beq h
  rw [if_neg h] at hk ⊢
  clear h
  by_cases h : (l == [105, 100, 101, 97, 108, 85, 105, 110, 116]) = true
  · rw [if_pos h]; exact eq_of_beq h
  rw [if_neg h] at hk ⊢
  clear h
  by_cases h : (l == [105, 100, 101, 97, 108, 70, 108, 111, 97, 116]) = true
  · rw [if_pos h]; exact eq_of_beq h
  rw [if_neg h] at hk ⊢
  clear h
  by_cases h : l.isEmpty = true
  · rw [if_pos h]; exact List.isEmpty_iff.1 h
  · rw [if_neg h] at hk; exact absurd rfl hk

theorem Kd.of_other (l : List UInt8) (h : Kd.of l = .other) : (l == [98, 111, 111, 108]) = false ∧ (l == [105, 110, 116, 56]) = false ∧ (l == [105, 110, 116, 49, 54]) = false ∧ (l == [105, 110, 116, 51, 50]) = false ∧ (l == [105, 110, 116, 54, 52]) = false ∧ (l == [117, 105, 110, 116, 56]) = false ∧ (l == [117, 105, 110, 116, 49, 54]) = false ∧ (l == [117, 105, 110, 116, 51, 50]) = false ∧ (l == [117, 105, 110, 116, 54, 52]) = false ∧ (l == [102, 108, 111, 97, 116, 51, 50]) = false ∧ (l == [102, 108, 111, 97, 116, 54, 52]) = false ∧ (l == [115, 116, 114, 105, 110, 103]) = false ∧ (l == [98, 108, 111, 98]) = false ∧ (l == [105, 100, 101, 97, 108, 73, 110, 116]) = false ∧ (l == [105, 100, 101, 97, 108, 82, 117, 110, 101]) = false ∧ (l == [105, 100, 101, 97, 108, 85, 105, 110, 116]) = false ∧ (l == [105, 100, 101, 97, 108, 70, 108, 111, 97, 116]) = false ∧ l.isEmpty = false := by
  unfold Kd.of at h
  by_cases h0 : (l == [98, 111, 111, 108]) = true
  · rw [if_pos h0] at h; cases h
  rw [if_neg h0] at h
  by_cases h1 : (l == [105, 110, 116, 56]) = true
  · rw [if_pos h1] at h; cases h
  rw [if_neg h1] at h
  by_cases h2 : (l == [105, 110, 116, 49, 54]) = true
  · rw [if_pos h2] at h; cases h
  rw [if_neg h2] at h
  by_cases h3 : (l == [105, 110, 116, 51, 50]) = true
  · rw [if_pos h3] at h; cases h
  rw [if_neg h3] at h
  by_cases h4 : (l == [105, 110, 116, 54, 52]) = true
  · rw [if_pos h4] at h; cases h
  rw [if_neg h4] at h
  by_cases h5 : (l == [117, 105, 110, 116, 56]) = true
  · rw [if_pos h5] at h; cases h
  rw [if_neg h5] at h
  by_cases h6 : (l == [117, 105, 110, 116, 49, 54]) = true
  · rw [if_pos h6] at h; cases h
  rw [if_neg h6] at h
  by_cases h7 : (l == [117, 105, 110, 116, 51, 50]) = true
  · rw [if_pos h7] at h; cases h
  rw [if_neg h7] at h
  by_cases h8 : (l == [117, 105, 110, 116, 54, 52]) = true
  · rw [if_pos h8] at h; cases h
  rw [if_neg h8] at h
  by_cases h9 : (l == [102, 108, 111, 97, 116, 51, 50]) = true
  · rw [if_pos h9] at h; cases h
  rw [if_neg h9] at h
  by_cases h10 : (l == [102, 108, 111, 97, 116, 54, 52]) = true
  · rw [if_pos h10] at h; cases h
  rw [if_neg h10] at h
  by_cases h11 : (l == [115, 116, 114, 105, 110, 103]) = true
  · rw [if_pos h11] at h; cases h
  rw [if_neg h11] at h
  by_cases h12 : (l == [98, 108, 111, 98]) = true
  · rw [if_pos h12] at h; cases h
  rw [if_neg h12] at h
  by_cases h13 : (l == [105, 100, 101, 97, 108, 73, 110, 116]) = true
  · rw [if_pos h13] at h; cases h
  rw [if_neg h13] at h
  by_cases h14 : (l == [105, 100, 101, 97, 108, 82, 117, 110, 101]) = true
  · rw [if_pos h14] at h; cases h
  rw [if_neg h14] at h
  by_cases h15 : (l == [105, 100, 101, 97, 108, 85, 105, 110, 116]) = true
  · rw [if_pos h15] at h; cases h
  rw [if_neg h15] at h
  by_cases h16 : (l == [105, 100, 101, 97, 108, 70, 108, 111, 97, 116]) = true
  · rw [if_pos h16] at h; cases h
  rw [if_neg h16] at h
  by_cases he : l.isEmpty = true
  · rw [if_pos he] at h; cases h
  exact ⟨Bool.eq_false_iff.2 h0, Bool.eq_false_iff.2 h1, Bool.eq_false_iff.2 h2, Bool.eq_false_iff.2 h3, Bool.eq_false_iff.2 h4, Bool.eq_false_iff.2 h5, Bool.eq_false_iff.2 h6, Bool.eq_false_iff.2 h7, Bool.eq_false_iff.2 h8, Bool.eq_false_iff.2 h9, Bool.eq_false_iff.2 h10, Bool.eq_false_iff.2 h11, Bool.eq_false_iff.2 h12, Bool.eq_false_iff.2 h13, Bool.eq_false_iff.2 h14, Bool.eq_false_iff.2 h15, Bool.eq_false_iff.2 h16, Bool.eq_false_iff.2 he⟩

/-- How many binary digits an integer kind has; whether it has a sign. -/
def Kd.width : Kd → Int
  | .int .i8 | .int .u8 => 8
  | .int .i16 | .int .u16 => 16
  | .int .i32 | .int .u32 | .iRune => 32
  | .int .i64 | .int .u64 | .iInt | .iUint => 64
  | _ => 0
def Kd.sgn : Kd → Bool
  | .int .i8 | .int .i16 | .int .i32 | .int .i64 | .iInt | .iRune => true
  | _ => false
def Kd.flt : Kd → Bool
  | .f32 | .f64 | .iFloat => true
  | _ => false
def Kd.ideal : Kd → Bool
  | .iInt | .iRune | .iUint | .iFloat => true
  | _ => false

/-- A float is a number. -/
def numB (f : Nat) : Bool := Ieee.double.order f f == some .eq
/-- A float's digits; all that are no numbers alike. -/
def bitsV (f : Nat) : Nat := if numB f = true then f else 1

/-- A double is one of float32's numbers, or none. -/
def single64 (f : Nat) : Bool := !numB f || (Flt.up (Flt.down f) == f && !((Ieee.single.read (Flt.down f)).isInfinity && !(Ieee.double.read f).isInfinity))

def zeros (f : Nat) (s : ByteArray) : Bool := bitsV f == 0 && s.toList.isEmpty

/-- What 'valid' tells. -/
def validB (kd : Kd) (n u : Int) (f : Nat) (s : ByteArray) : Bool :=
  match kd with
  | .int .i8 => u == 0 && zeros f s && n / 128 == n / 9223372036854775808
  | .int .i16 => u == 0 && zeros f s && n / 32768 == n / 9223372036854775808
  | .int .i32 | .iRune => u == 0 && zeros f s && n / 2147483648 == n / 9223372036854775808
  | .int .i64 | .iInt => u == 0 && zeros f s && n / 9223372036854775808 == n / 9223372036854775808
  | .int .u8 => n == 0 && zeros f s && u / 256 == 0
  | .int .u16 => n == 0 && zeros f s && u / 65536 == 0
  | .int .u32 => n == 0 && zeros f s && u / 4294967296 == 0
  | .int .u64 | .iUint => n == 0 && zeros f s
  | .f32 => n == 0 && u == 0 && s.toList.isEmpty && single64 f
  | .f64 | .iFloat => n == 0 && u == 0 && s.toList.isEmpty
  | .bool => u == 0 && zeros f s && (n == 0 || n == 1)
  | .str | .blob => n == 0 && u == 0 && bitsV f == 0 && decide ((s.size : Int) ≤ 65536)
  | .null => n == 0 && u == 0 && zeros f s
  | .other => false

end Go.Proofs.YtffgkocokkhahaaDoor

/- The walks of the small functions: width, isIdeal, isFloat, bits, zzFits1. -/
namespace Go.Proofs.YtffgkocokkhahaaDoor
open Go.RowKit

theorem bcell {W w1 : World} (hb : Below W.heap.size W w1) : (∀ b o, b < W.heap.size → w1.cell? ⟨b, o, none⟩ = W.cell? ⟨b, o, none⟩) ∧ (∀ b o, b < W.heap.size → w1.frozen? ⟨b, o, none⟩ = W.frozen? ⟨b, o, none⟩) :=
  ⟨fun b o h => hb.cell (p := ⟨b, o, none⟩) h, fun b o h => hb.frozen (p := ⟨b, o, none⟩) h⟩

theorem quiet_of_left {P : Program} {f : FuncId} {args : Array Value} {w : World} {n : Nat} {v : Value}
    (h : Calls P f args (w.drewN n) fun e w' => e = .returned v ∧ w.drewN n = w') : Calls P f args (w.drewN n) fun e w'' => e = .returned v ∧ ∃ m, w'' = w.drewN m :=
  h.mono fun _ _ ⟨he, hm⟩ => ⟨he, n, hm.symm⟩

section
variable {P : Program} (w : World) (a : Addr) (m : Mode)
/-- A float is stored as any one cell. -/
@[go_sem] theorem run_store_float (k : FloatKind) (b : Nat) : (store a (.float k b) m).run P w = stored P w a (.float k b) m := run_store P w a _ m rfl
end

set_option maxHeartbeats 400000 in
theorem width_any (k : ByteArray) (w : World) :
    Calls Tryd.prog 68 #[.string k] w fun e w' => e = .returned (.tuple #[.int .i64 (Kd.of k.toList).width, .bool (Kd.of k.toList).sgn]) ∧ w = w' := by
  cases hk : Kd.of k.toList
  case other =>
    obtain ⟨h1, h2, h3, h4, h5, h6, h7, h8, h9, h10, h11, h12, h13, h14, h15, h16, h17, h18⟩ := Kd.of_other _ hk
    clear hk
    go_enter Tryd.func68, Tryd.ntmps68
    go_wp2
    go_ret2
    exact ⟨rfl, rfl⟩
  case int q =>
    have hl := Kd.of_lit _ hk (by simp)
    clear hk
    cases q <;> (simp only [Kd.lit] at hl; go_enter Tryd.func68, Tryd.ntmps68; go_wp2; go_ret2; exact ⟨rfl, rfl⟩)
  all_goals
    have hl := Kd.of_lit _ hk (by simp)
    clear hk
    simp only [Kd.lit] at hl
    go_enter Tryd.func68, Tryd.ntmps68
    go_wp2
    go_ret2
    exact ⟨rfl, rfl⟩

set_option maxHeartbeats 400000 in
theorem isIdeal_any (k : ByteArray) (w : World) :
    Calls Tryd.prog 34 #[.string k] w fun e w' => e = .returned (.bool (Kd.of k.toList).ideal) ∧ w = w' := by
  cases hk : Kd.of k.toList
  case other =>
    obtain ⟨h1, h2, h3, h4, h5, h6, h7, h8, h9, h10, h11, h12, h13, h14, h15, h16, h17, h18⟩ := Kd.of_other _ hk
    clear hk
    go_enter Tryd.func34, Tryd.ntmps34
    go_wp2
    go_ret
    exact ⟨rfl, rfl⟩
  case int q =>
    have hl := Kd.of_lit _ hk (by simp)
    clear hk
    cases q <;> (simp only [Kd.lit] at hl; go_enter Tryd.func34, Tryd.ntmps34; go_wp2; go_ret; exact ⟨rfl, rfl⟩)
  all_goals
    have hl := Kd.of_lit _ hk (by simp)
    clear hk
    simp only [Kd.lit] at hl
    go_enter Tryd.func34, Tryd.ntmps34
    go_wp2
    go_ret
    exact ⟨rfl, rfl⟩

set_option maxHeartbeats 400000 in
theorem isFloat_any (k : ByteArray) (w : World) :
    Calls Tryd.prog 69 #[.string k] w fun e w' => e = .returned (.bool (Kd.of k.toList).flt) ∧ w = w' := by
  cases hk : Kd.of k.toList
  case other =>
    obtain ⟨h1, h2, h3, h4, h5, h6, h7, h8, h9, h10, h11, h12, h13, h14, h15, h16, h17, h18⟩ := Kd.of_other _ hk
    clear hk
    go_enter Tryd.func69, Tryd.ntmps69
    go_wp2
    go_ret
    exact ⟨rfl, rfl⟩
  case int q =>
    have hl := Kd.of_lit _ hk (by simp)
    clear hk
    cases q <;> (simp only [Kd.lit] at hl; go_enter Tryd.func69, Tryd.ntmps69; go_wp2; go_ret; exact ⟨rfl, rfl⟩)
  all_goals
    have hl := Kd.of_lit _ hk (by simp)
    clear hk
    simp only [Kd.lit] at hl
    go_enter Tryd.func69, Tryd.ntmps69
    go_wp2
    go_ret
    exact ⟨rfl, rfl⟩

theorem run_f64bits (b : Nat) (w : World) : (callFunc 98 #[.float .f64 b]).run Tryd.prog w = .ok (.value (.int .u64 b)) w := by kernel_rfl

set_option maxHeartbeats 400000 in
theorem bits_any (b : Nat) (w : World) :
    Calls Tryd.prog 67 #[.float .f64 b] w fun e w' => e = .returned (.int .u64 (bitsV b)) ∧ w = w' := by
  have hf := run_f64bits b
  by_cases h : numB b = true
  · have hb : bitsV b = b := if_pos h
    rw [hb]
    clear hb
    have h1 : FloatKind.f64.format.order b b = some .eq := eq_of_beq h
    have h' : (FloatKind.f64.format.order b b != some .eq) = false := by rw [h1]; rfl
    clear h h1
    go_enter Tryd.func67, Tryd.ntmps67
    go_wp2
    go_ret
    exact ⟨rfl, rfl⟩
  · have hb : bitsV b = 1 := if_neg h
    rw [hb]
    clear hb
    have h1 : (FloatKind.f64.format.order b b == some .eq) = false := Bool.eq_false_iff.2 h
    have h' : (FloatKind.f64.format.order b b != some .eq) = true := by unfold bne; rw [h1]; rfl
    clear h h1
    go_enter Tryd.func67, Tryd.ntmps67
    go_wp2
    go_ret
    exact ⟨rfl, rfl⟩

/-- Nothing in a value is longer than the bound. -/
def fitsB (k s : ByteArray) : Bool := decide (k.size ≤ 2147483647) && decide (s.size ≤ 2147483647)

set_option maxHeartbeats 400000 in
theorem zzFits1_any (k : ByteArray) (n u : Int) (f : Nat) (s : ByteArray) (w : World) :
    Calls Tryd.prog 66 #[.agg #[.string k, .int .i64 n, .int .u64 u, .float .f64 f, .string s]] w fun e w' => e = .returned (.bool (fitsB k s)) ∧ Below w.heap.size w w' := by
  by_cases h1 : (k.size : Int) > 2147483647
  · have hb : fitsB k s = false := by unfold fitsB; simp; omega
    rw [hb]
    clear hb
    go_enter Tryd.func66, Tryd.ntmps66
    go_wp2
    go_ret
    exact ⟨rfl, (Below.refl _ _).alloc (Nat.le_refl _) _⟩
  · by_cases h2 : (s.size : Int) > 2147483647
    · have hb : fitsB k s = false := by unfold fitsB; simp; omega
      rw [hb]
      clear hb
      go_enter Tryd.func66, Tryd.ntmps66
      go_wp2
      go_ret
      exact ⟨rfl, (Below.refl _ _).alloc (Nat.le_refl _) _⟩
    · have hb : fitsB k s = true := by unfold fitsB; simp; omega
      rw [hb]
      clear hb
      go_enter Tryd.func66, Tryd.ntmps66
      go_wp2
      go_ret
      exact ⟨rfl, (Below.refl _ _).alloc (Nat.le_refl _) _⟩

end Go.Proofs.YtffgkocokkhahaaDoor

/- Lists of values in memory; laws.zzFits2 of them. -/
namespace Go.Proofs.YtffgkocokkhahaaDoor
open Go.RowKit

/-- A value's fields. -/
structure VV where
  k : ByteArray
  n : Int
  u : Int
  f : Nat
  s : ByteArray

def VV.val (x : VV) : Value := .agg #[.string x.k, .int .i64 x.n, .int .u64 x.u, .float .f64 x.f, .string x.s]

/-- A list of values lies in memory. -/
def LAt (w : World) (A : Option Addr) (l : List VV) : Prop :=
  ∀ i x, l[i]? = some x → ∃ ad, A = some ad ∧ (ad.add (i * 5)).block < w.heap.size ∧ w.cell? (ad.add (i * 5)) = some (.string x.k) ∧ w.cell? ⟨(ad.add (i * 5)).block, (ad.add (i * 5)).off + 1, none⟩ = some (.int .i64 x.n) ∧
    w.cell? ⟨(ad.add (i * 5)).block, (ad.add (i * 5)).off + 2, none⟩ = some (.int .u64 x.u) ∧ w.cell? ⟨(ad.add (i * 5)).block, (ad.add (i * 5)).off + 3, none⟩ = some (.float .f64 x.f) ∧ w.cell? ⟨(ad.add (i * 5)).block, (ad.add (i * 5)).off + 4, none⟩ = some (.string x.s)

theorem block_add (a : Addr) (j : Nat) : (a.add j).block = a.block := by unfold Addr.add; split <;> rfl

theorem LAt.below {w w' : World} {A : Option Addr} {l : List VV} (h : LAt w A l) (hb : Below w.heap.size w w') : LAt w' A l := by
  intro i x hx
  obtain ⟨ad, rfl, hlt, h0, h1, h2, h3, h4⟩ := h i x hx
  refine ⟨ad, rfl, Nat.lt_of_lt_of_le hlt hb.size, ?_, ?_, ?_, ?_, ?_⟩
  all_goals (rw [hb.cell (by exact hlt)]; assumption)

theorem up_below' {w w' w'' : World} (h : Below w.heap.size w w') (h2 : Below w'.heap.size w' w'') : Below w.heap.size w w'' := h.trans (h2.mono h.size)

def fits2B (l : List VV) : Bool := decide (l.length ≤ 2147483647) && l.all fun x => fitsB x.k x.s

theorem zzFits2_any (l : List VV) (A : Option Addr) (c : Nat) (w : World) (hl : LAt w A l) :
    Calls Tryd.prog 31 #[.slice A l.length c] w fun e w' => e = .returned (.bool (fits2B l)) ∧ Below w.heap.size w w' := by
  obtain ⟨len, hlen⟩ : ∃ len, len = l.length := ⟨_, rfl⟩
  have HL := Lib.hid hl
  have HN := Lib.hid hlen
  rw [← hlen]
  have HB : Hid (2147483647 < len → fits2B l = false) := fun h => by unfold fits2B; rw [← hlen]; simp; omega
  have HE : Hid (∀ (k : Nat) (x : VV), l[k]? = some x → fitsB x.k x.s = false → fits2B l = false) := fun k x hx hf => by
    unfold fits2B
    rw [Bool.and_eq_false_iff]
    right
    rw [List.all_eq_false]
    exact ⟨x, List.mem_of_getElem? hx, by rw [hf]; decide⟩
  have HY : Hid (len ≤ 2147483647 → (∀ j x, j < len → l[j]? = some x → fitsB x.k x.s = true) → fits2B l = true) := fun h1 h2 => by
    unfold fits2B
    rw [Bool.and_eq_true, decide_eq_true_eq, List.all_eq_true]
    refine ⟨by omega, fun x hx => ?_⟩
    obtain ⟨j, hj, rfl⟩ := List.getElem_of_mem hx
    exact h2 j _ (by omega) (List.getElem?_eq_getElem hj)
  clear hl hlen
  go_enter Tryd.func31, Tryd.ntmps31
  have HF0 := Lib.hid (fun (x : VV) (h : fitsB x.k x.s = false) w => show Calls Tryd.prog 66 #[.agg #[.string x.k, .int .i64 x.n, .int .u64 x.u, .float .f64 x.f, .string x.s]] w fun e w' => e = .returned (.bool false) ∧ Below w.heap.size w w' by rw [← h]; exact zzFits1_any x.k x.n x.u x.f x.s w)
  have HF1 := Lib.hid (fun (x : VV) (h : fitsB x.k x.s = true) w => show Calls Tryd.prog 66 #[.agg #[.string x.k, .int .i64 x.n, .int .u64 x.u, .float .f64 x.f, .string x.s]] w fun e w' => e = .returned (.bool true) ∧ Below w.heap.size w w' by rw [← h]; exact zzFits1_any x.k x.n x.u x.f x.s w)
  go_wp2
  · go_ret
    exact ⟨by rw [HB.out (by omega)]; rfl, Below.refl _ _⟩
  go_loopw [10] (fun i wr => ∃ k : Nat, k ≤ len ∧ i = .int .i64 k ∧ Below w.heap.size w wr ∧ ∀ j x, j < k → l[j]? = some x → fitsB x.k x.s = true) (fun i _ => len - (intOf i).toNat)
  case atStart => exact ⟨0, by omega, rfl, Below.refl _ _, fun _ _ h => by omega⟩
  case round =>
    obtain ⟨k, hk, rfl, hb, hall⟩ := hrel
    have HA := Lib.hid hall
    clear hall
    by_cases hlt : k < len
    · have hx : l[k]? = some (l[k]'(by rw [← HN.out]; exact hlt)) := List.getElem?_eq_getElem _
      obtain ⟨x, hx'⟩ : ∃ x, l[k]? = some x := ⟨_, hx⟩
      clear hx
      have HX := Lib.hid hx'
      obtain ⟨ad, rfl, hbl, h0, h1, h2, h3, h4⟩ := (HL.out.below hb) k x hx'
      clear hx'
      have hs := hb.size
      cases hf : fitsB x.k x.s with
      | false =>
        have HW := Lib.hid (HF0.out x hf)
        have hf' := Lib.hid hf
        clear hf
        go_wp2_with (go_at_call 66; refine (HW.out _).mono ?_; rintro e w1 ⟨rfl, hb1⟩)
        go_ret
        exact ⟨by rw [HE.out k x HX.out hf'.out]; rfl, up_below' (hb.alloc hb.size _) hb1⟩
      | true =>
        have HW := Lib.hid (HF1.out x hf)
        have hf' := Lib.hid hf
        clear hf
        go_wp2_with (go_at_call 66; refine (HW.out _).mono ?_; rintro e w1 ⟨rfl, hb1⟩)
        refine ⟨⟨k + 1, by omega, by push_cast; rfl, up_below' (hb.alloc hb.size _) hb1, fun j y hj hy => ?_⟩, by simp [intOf]; omega⟩
        rcases Nat.lt_or_ge j k with h | h
        · exact HA.out j y h hy
        · obtain rfl : j = k := by omega
          obtain rfl : y = x := Option.some.inj (hy.symm.trans HX.out)
          exact hf'.out
    · have hke : k = len := by omega
      subst hke
      go_wp2
      go_ret
      exact ⟨by rw [HY.out (by omega) HA.out]; rfl, hb⟩

end Go.Proofs.YtffgkocokkhahaaDoor
