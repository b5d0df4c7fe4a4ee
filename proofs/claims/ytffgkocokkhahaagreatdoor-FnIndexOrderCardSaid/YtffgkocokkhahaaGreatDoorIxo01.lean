/-
  Plain lemmas on the floats of Ieee: a common scale for both formats, what is read back exactly, float32 as float64 and back. Nothing of Go here. || The values of the database as plain data, and their order. Nothing of Go's memory here. || The kinds of values by their names, and which values are valid. Plain data; nothing of Go's memory here. || The walks of the small functions: width, isIdeal, isFloat, bits, zzFits1. || Lists of values in memory; laws.zzFits2 of them. || A slice that reads as a list of cells; append onto a row of the call's own, its source known by its cells; a row of the call's own over later worlds. || What the conversions between float64 and float32 do in the model: exact ones; a NaN and a number too great for float32 are drawn. || Values of the database as the program has them; the walk of impl.in. PRINTED BY wip/tpl/gen_in.py. || impl.ins: a list of values brought into the database. || The walk of impl.ins.
-/
import Ieee.Arith
import GoSem.Op.String
import GoSem.Core.View
import Derived.Test.YtffgkocokkhahaaGreatDoorRows
import Derived.WalkKit
import Derived.WalkSpells
import Derived.WalkLawsBesides
import Derived.Deep.QuietTactic
import Derived.BigQuiet
import Derived.Lib.Hide
import Derived.Below
import Derived.Laws.OwnMore
import Derived.Deep.AppendLies
import Derived.Deep.Draws
import Derived.Maps.AppendAt
import Derived.RegionTactic
import Derived.OwnWalk

/- Plain lemmas on the floats of Ieee: a common scale for both formats, what is read back exactly, float32 as float64 and back. Nothing of Go here. -/
namespace Go.Proofs.YtffgkocokkhahaaGreatDoor.Flt
open Ieee

theorem signed_scale (s : Bool) (m a c : Nat) : signed s m (a + c) = signed s m a * 2 ^ c := by
  unfold signed
  simp only [Nat.shiftLeft_eq, Nat.pow_add]
  split <;> push_cast <;> simp [Int.neg_mul, Int.mul_assoc]

theorem compare_scale (x y : Int) {k : Int} (hk : 0 < k) : compare (x * k) (y * k) = compare x y := by
  simp only [compare, compareOfLessAndEq]
  have h1 : x * k < y * k ↔ x < y := ⟨fun h => Int.lt_of_mul_lt_mul_right h (Int.le_of_lt hk), fun h => Int.mul_lt_mul_of_pos_right h hk⟩
  have h2 : x * k = y * k ↔ x = y := ⟨fun h => Int.eq_of_mul_eq_mul_right (Int.ne_of_gt hk) h, fun h => by rw [h]⟩
  simp only [h1, h2]

/-- A number beyond all that a format has, on the common scale. -/
def big : Int := ((2 ^ 4000 : Nat) : Int)

theorem big_pos : 0 < big := (Int.ofNat_lt (n := 0)).2 (Nat.two_pow_pos 4000)

/-- What a datum stands for on the scale of 2^-1074. -/
def key : Datum → Option Int
  | .nan .. => none
  | .infinity s => some (if s then -big else big)
  | .number s m p => some (signed s m (p + 1074).toNat)

def fits : Datum → Prop
  | .number _ m p => m < 2 ^ 64 ∧ -1074 ≤ p ∧ p ≤ 2000
  | _ => True

theorem signed_bound (s : Bool) (m a : Nat) (hm : m < 2 ^ 64) (ha : a ≤ 3074) : -big < signed s m a ∧ signed s m a < big := by
  have h1 : m <<< a < 2 ^ 4000 := by
    rw [Nat.shiftLeft_eq]
    calc m * 2 ^ a < 2 ^ 64 * 2 ^ a := Nat.mul_lt_mul_of_pos_right hm (Nat.two_pow_pos _)
      _ = 2 ^ (64 + a) := (Nat.pow_add ..).symm
      _ ≤ 2 ^ 4000 := Nat.pow_le_pow_right (by decide) (by omega)
  have h2 : ((m <<< a : Nat) : Int) < big := by
    exact Int.ofNat_lt.2 h1
  have h0 : (0 : Int) ≤ ((m <<< a : Nat) : Int) := Int.natCast_nonneg _
  unfold signed
  generalize ((m <<< a : Nat) : Int) = z at *
  generalize big = B at *
  split <;> omega

theorem order_key {d e : Datum} (hd : fits d) (he : fits e) : d.order e = (key d).bind fun x => (key e).map fun y => compare x y := by
  cases d with
  | nan => cases e <;> rfl
  | infinity s =>
    cases e with
    | nan => rfl
    | infinity t => cases s <;> cases t <;> decide +kernel
    | number t n j =>
      obtain ⟨h1, h2, h3⟩ := he
      have hb := signed_bound t n (j + 1074).toNat h1 (by omega)
      simp only [Datum.order, key, Option.bind_some, Option.map_some]
      generalize signed t n (j + 1074).toNat = z at *
      generalize big = B at *
      cases s <;> simp only [compare, compareOfLessAndEq, if_true, if_false, Bool.false_eq_true]
      · rw [if_neg (by omega), if_neg (by omega)]
      · rw [if_pos (by omega)]
  | number s m i =>
    obtain ⟨g1, g2, g3⟩ := hd
    cases e with
    | nan => rfl
    | infinity t =>
      have hb := signed_bound s m (i + 1074).toNat g1 (by omega)
      simp only [Datum.order, key, Option.bind_some, Option.map_some]
      generalize signed s m (i + 1074).toNat = z at *
      generalize big = B at *
      cases t <;> simp only [compare, compareOfLessAndEq, if_true, if_false, Bool.false_eq_true]
      · rw [if_pos (by omega)]
      · rw [if_neg (by omega), if_neg (by omega)]
    | number t n j =>
      obtain ⟨h1, h2, h3⟩ := he
      simp only [Datum.order, key, Option.bind_some, Option.map_some]
      have e1 : (i + 1074).toNat = (i - min i j).toNat + (min i j + 1074).toNat := by omega
      have e2 : (j + 1074).toNat = (j - min i j).toNat + (min i j + 1074).toNat := by omega
      rw [e1, e2, signed_scale, signed_scale, compare_scale _ _ (Int.pow_pos (by decide))]


theorem fits_double (w : Nat) : fits (double.read w) := by
  have e1 : double.binade = 4503599627370496 := by decide +kernel
  have e2 : double.leastPlace = -1074 := by decide +kernel
  have e3 : double.infRung = 2047 * 4503599627370496 := by decide +kernel
  unfold Format.read
  simp only [e1, e2, e3]
  generalize w % double.signWeight = r
  split
  · exact ⟨by omega, by omega, by omega⟩
  · split
    · refine ⟨by omega, by omega, by omega⟩
    · split <;> trivial

theorem fits_single (w : Nat) : fits (single.read w) := by
  have e1 : single.binade = 8388608 := by decide +kernel
  have e2 : single.leastPlace = -149 := by decide +kernel
  have e3 : single.infRung = 255 * 8388608 := by decide +kernel
  unfold Format.read
  simp only [e1, e2, e3]
  generalize w % single.signWeight = r
  split
  · exact ⟨by omega, by omega, by omega⟩
  · split
    · refine ⟨by omega, by omega, by omega⟩
    · split <;> trivial

/-- The number of a double; 'none': it is none. -/
def key64 (w : Nat) : Option Int := key (double.read w)
def key32 (w : Nat) : Option Int := key (single.read w)

theorem order64 (x y : Nat) : double.order x y = (key64 x).bind fun a => (key64 y).map fun b => compare a b := order_key (fits_double x) (fits_double y)
theorem order32 (x y : Nat) : single.order x y = (key32 x).bind fun a => (key32 y).map fun b => compare a b := order_key (fits_single x) (fits_single y)

theorem signed_eq (s : Bool) {m a m' a' : Nat} (h : m * 2 ^ a = m' * 2 ^ a') : signed s m a = signed s m' a' := by
  unfold signed
  simp only [Nat.shiftLeft_eq, h]

theorem mul_add_mod_lt {a b c : Nat} (h : c < b) : (a * b + c) % b = c := by
  rw [Nat.mul_comm, Nat.mul_add_mod, Nat.mod_eq_of_lt h]
theorem mul_add_div_lt {a b c : Nat} (hb : 0 < b) (h : c < b) : (a * b + c) / b = a := by
  rw [Nat.mul_comm, Nat.mul_add_div hb, Nat.div_eq_of_lt h, Nat.add_zero]

/-- The value of a rung, in units of the least place. -/
def rungVal (B r : Nat) : Nat := if r < B then r else (B + r % B) * 2 ^ (r / B - 1)

theorem rungVal_mk {B n k : Nat} (hB : 0 < B) (h1 : k ≤ 2 * B) (h2 : n = 0 ∨ B ≤ k) : rungVal B (n * B + k) = k * 2 ^ n := by
  by_cases hk : k < B
  · obtain rfl : n = 0 := by omega
    simp [rungVal, hk]
  · by_cases hk2 : k = 2 * B
    · subst hk2
      have e : n * B + 2 * B = (n + 2) * B := by rw [Nat.add_mul]
      have hge : ¬ (n + 2) * B < B := by
        have : 1 * B ≤ (n + 2) * B := Nat.mul_le_mul_right _ (by omega)
        omega
      rw [e, rungVal, if_neg hge, Nat.mul_mod_left, Nat.mul_div_cancel _ hB]
      simp only [Nat.add_zero]
      rw [show n + 2 - 1 = n + 1 from rfl, Nat.pow_succ]
      rw [Nat.mul_comm 2 B, Nat.mul_assoc, Nat.mul_comm (2 ^ n) 2]
    · have e : n * B + k = (n + 1) * B + (k - B) := by rw [Nat.add_mul]; omega
      have hlt : k - B < B := by omega
      have hge : ¬ (n + 1) * B + (k - B) < B := by
        have : 1 * B ≤ (n + 1) * B := Nat.mul_le_mul_right _ (by omega)
        omega
      rw [e, rungVal, if_neg hge, mul_add_mod_lt hlt, mul_add_div_lt hB hlt]
      rw [show B + (k - B) = k from by omega, Nat.add_sub_cancel]


theorem cut_zero (neg : Bool) (n : Nat) : Toward.even.cut neg n 0 = n := by
  simp [Toward.cut, Nat.mod_one]

theorem log2_spec {n : Nat} (h : n ≠ 0) : 2 ^ n.log2 ≤ n ∧ n < 2 ^ (n.log2 + 1) := ⟨Nat.log2_self_le h, Nat.lt_log2_self⟩

theorem cut_le (neg : Bool) (n d : Nat) : Toward.even.cut neg n d ≤ n / 2 ^ min d (n.log2 + 2) + 1 := by
  unfold Toward.cut
  simp only [Nat.shiftLeft_eq, Nat.one_mul]
  have : ∀ b : Bool, b.toNat ≤ 1 := fun b => by cases b <;> decide
  exact Nat.add_le_add_left (this _) _

theorem cut_ge (neg : Bool) (n d : Nat) : n / 2 ^ min d (n.log2 + 2) ≤ Toward.even.cut neg n d := by
  unfold Toward.cut
  simp only [Nat.shiftLeft_eq, Nat.one_mul]
  exact Nat.le_add_right _ _

theorem cut_exact (neg : Bool) {n d : Nat} (hn : n ≠ 0) (h : 2 ^ d ∣ n) : Toward.even.cut neg n d * 2 ^ d = n := by
  obtain ⟨c, rfl⟩ := h
  have hc : c ≠ 0 := by rintro rfl; exact hn (by simp)
  have hd : d ≤ (2 ^ d * c).log2 := (Nat.le_log2 hn).2 (Nat.le_mul_of_pos_right _ (Nat.pos_of_ne_zero hc))
  have hm : min d ((2 ^ d * c).log2 + 2) = d := by omega
  unfold Toward.cut
  simp only [Nat.shiftLeft_eq, Nat.one_mul, hm]
  have h2 : 0 < 2 ^ d := Nat.two_pow_pos _
  rw [Nat.mul_div_cancel_left _ h2, Nat.mul_mod_right]
  have e1 : (decide (2 ^ d < 2 * 0) || 2 ^ d == 2 * 0 && c % 2 == 1) = false := by
    simp
  rw [e1]
  simp [Nat.mul_comm]

/-- The parts of the nearest word. -/
theorem nearest_parts (f : Format) (neg : Bool) {mag : Nat} (place : Int) (h : mag ≠ 0) :
    ∃ n kept : Nat, f.nearest neg mag place = f.word neg (min (n * f.binade + kept) f.infRung) ∧ kept ≤ 2 * f.binade ∧ (n = 0 ∨ f.binade ≤ kept) ∧
      (n : Int) + f.leastPlace = max (place + mag.log2 - f.fractionBits) f.leastPlace ∧
      (-1074 ≤ place → -1074 ≤ f.leastPlace → 2 ^ (n + f.leastPlace - place).toNat ∣ mag → kept * 2 ^ (n + f.leastPlace + 1074).toNat = mag * 2 ^ (place + 1074).toNat) := by
  obtain ⟨last, hlast⟩ : ∃ last : Int, last = max (place + mag.log2 - f.fractionBits) f.leastPlace := ⟨_, rfl⟩
  obtain ⟨kept, hkept⟩ : ∃ kept : Nat, kept = Toward.even.cut neg (mag <<< (place - last).toNat) (last - place).toNat := ⟨_, rfl⟩
  have hn : ((last - f.leastPlace).toNat : Int) + f.leastPlace = last := by omega
  have hlog := log2_spec h
  refine ⟨(last - f.leastPlace).toNat, kept, ?_, ?_, ?_, by rw [hn]; exact hlast, ?_⟩
  · unfold Format.nearest
    rw [if_neg h]
    simp only [← hlast, ← hkept]
  · -- kept is at most two binades
    unfold Format.binade at *
    rcases Int.le_total last place with hle | hle
    · have e0 : (last - place).toNat = 0 := by omega
      rw [e0, cut_zero, Nat.shiftLeft_eq] at hkept
      rw [hkept]
      have : mag * 2 ^ (place - last).toNat < 2 ^ (mag.log2 + 1) * 2 ^ (place - last).toNat := Nat.mul_lt_mul_of_pos_right hlog.2 (Nat.two_pow_pos _)
      have h2 : 2 ^ (mag.log2 + 1) * 2 ^ (place - last).toNat ≤ 2 ^ (f.fractionBits + 1) := by
        rw [← Nat.pow_add]
        exact Nat.pow_le_pow_right (by decide) (by omega)
      have h3 : 2 ^ (f.fractionBits + 1) = 2 ^ f.fractionBits * 2 := Nat.pow_succ ..
      omega
    · have e0 : (place - last).toNat = 0 := by omega
      rw [e0, Nat.shiftLeft_zero] at hkept
      have hc := cut_le neg mag (last - place).toNat
      rw [← hkept] at hc
      have hq : mag / 2 ^ min (last - place).toNat (mag.log2 + 2) < 2 ^ (f.fractionBits + 1) := by
        rw [Nat.div_lt_iff_lt_mul (Nat.two_pow_pos _), ← Nat.pow_add]
        exact Nat.lt_of_lt_of_le hlog.2 (Nat.pow_le_pow_right (by decide) (by omega))
      rw [Nat.pow_succ] at hq
      omega
  · by_cases hz : (last - f.leastPlace).toNat = 0
    · exact .inl hz
    · refine .inr ?_
      have hl2 : last = place + mag.log2 - f.fractionBits := by omega
      unfold Format.binade
      rcases Int.le_total last place with hle | hle
      · have e0 : (last - place).toNat = 0 := by omega
        rw [e0, cut_zero, Nat.shiftLeft_eq] at hkept
        rw [hkept]
        have : 2 ^ mag.log2 * 2 ^ (place - last).toNat ≤ mag * 2 ^ (place - last).toNat := Nat.mul_le_mul_right _ hlog.1
        rw [← Nat.pow_add] at this
        rwa [show mag.log2 + (place - last).toNat = f.fractionBits from by omega] at this
      · have e0 : (place - last).toNat = 0 := by omega
        rw [e0, Nat.shiftLeft_zero] at hkept
        have hc := cut_ge neg mag (last - place).toNat
        rw [← hkept] at hc
        refine Nat.le_trans ?_ hc
        rw [Nat.le_div_iff_mul_le (Nat.two_pow_pos _), ← Nat.pow_add]
        exact Nat.le_trans (Nat.pow_le_pow_right (by decide) (by omega)) hlog.1
  · intro hp hlp hd
    rw [hn] at hd ⊢
    rcases Int.le_total last place with hle | hle
    · have e0 : (last - place).toNat = 0 := by omega
      rw [e0, cut_zero, Nat.shiftLeft_eq] at hkept
      rw [hkept, Nat.mul_assoc, ← Nat.pow_add]
      congr 2
      omega
    · have e0 : (place - last).toNat = 0 := by omega
      rw [e0, Nat.shiftLeft_zero] at hkept
      have hx := cut_exact neg h hd
      rw [← hkept] at hx
      rw [show (last + 1074).toNat = (last - place).toNat + (place + 1074).toNat from by omega, Nat.pow_add, ← Nat.mul_assoc, hx]


theorem word_split (f : Format) (neg : Bool) {r : Nat} (h : r < f.signWeight) : (f.word neg r / f.signWeight % 2 == 1) = neg ∧ f.word neg r % f.signWeight = r := by
  have hpos : 0 < f.signWeight := Nat.two_pow_pos _
  unfold Format.word
  cases neg
  · simp only [Bool.false_eq_true, if_false]
    rw [Nat.div_eq_of_lt h, Nat.mod_eq_of_lt h]
    exact ⟨rfl, rfl⟩
  · simp only [if_true]
    rw [Nat.add_mod_left, Nat.mod_eq_of_lt h, Nat.add_div_left _ hpos, Nat.div_eq_of_lt h]
    exact ⟨rfl, rfl⟩

theorem infRung_lt (f : Format) : f.infRung < f.signWeight := by
  have h : 0 < 2 ^ f.exponentBits := Nat.two_pow_pos _
  have h2 : 0 < f.binade := Nat.two_pow_pos _
  unfold Format.infRung Format.signWeight
  rw [Nat.pow_add, Nat.sub_mul]
  have : 1 * f.binade ≤ 2 ^ f.exponentBits * f.binade := Nat.mul_le_mul_right _ h
  unfold Format.binade at *
  omega

/-- Reading a word of a finite rung. -/
theorem key_word (f : Format) (neg : Bool) {r : Nat} (h : r < f.infRung) (hlp : -1074 ≤ f.leastPlace) :
    key (f.read (f.word neg r)) = some (signed neg (rungVal f.binade r) (f.leastPlace + 1074).toNat) ∧ (f.read (f.word neg r)).neg = neg ∧ (f.read (f.word neg r)).isNaN = false ∧ (f.read (f.word neg r)).isInfinity = false := by
  have hi := infRung_lt f
  obtain ⟨h1, h2⟩ := word_split f neg (Nat.lt_trans h hi)
  unfold Format.read
  simp only [h1, h2]
  unfold rungVal
  by_cases hb : r < f.binade
  · rw [if_pos hb, if_pos hb]
    exact ⟨rfl, rfl, rfl, rfl⟩
  · rw [if_neg hb, if_neg hb, if_pos h]
    refine ⟨?_, rfl, rfl, rfl⟩
    unfold key
    refine congrArg some (signed_eq neg ?_)
    rw [Nat.mul_assoc, ← Nat.pow_add]
    congr 2
    omega

/-- What is exact is read back. -/
theorem key_nearest (f : Format) (neg : Bool) (mag : Nat) (place : Int) (hp : -1074 ≤ place) (hlp : -1074 ≤ f.leastPlace)
    (hd : 2 ^ (max (place + mag.log2 - f.fractionBits) f.leastPlace - place).toNat ∣ mag) (h0 : 0 < f.infRung)
    (hr : place + mag.log2 - f.fractionBits < f.infRung / f.binade - 2 + f.leastPlace) (hlow : 2 < f.infRung / f.binade) :
    key (f.read (f.nearest neg mag place)) = some (signed neg mag (place + 1074).toNat) ∧ (f.read (f.nearest neg mag place)).neg = neg ∧ (f.read (f.nearest neg mag place)).isInfinity = false := by
  by_cases hm : mag = 0
  · subst hm
    unfold Format.nearest
    rw [if_pos rfl]
    obtain ⟨k1, k2, _, k4⟩ := key_word f neg h0 hlp
    rw [k1]
    refine ⟨congrArg some (signed_eq neg ?_), k2, k4⟩
    have : rungVal f.binade 0 = 0 := by
      have : 0 < f.binade := Nat.two_pow_pos _
      simp [rungVal, this]
    rw [this, Nat.zero_mul, Nat.zero_mul]
  · obtain ⟨n, kept, hn, hk1, hk2, hl, hx⟩ := nearest_parts f neg place hm
    have hB : 0 < f.binade := Nat.two_pow_pos _
    have hq : n + 2 < f.infRung / f.binade := by omega
    have hlt : n * f.binade + kept < f.infRung := by
      have : (n + 3) * f.binade ≤ f.infRung := Nat.le_trans (Nat.mul_le_mul_right _ hq) (Nat.div_mul_le_self _ _)
      rw [Nat.add_mul] at this
      omega
    rw [hn, Nat.min_eq_left (Nat.le_of_lt hlt)]
    obtain ⟨k1, k2, _, k4⟩ := key_word f neg hlt hlp
    rw [k1]
    refine ⟨congrArg some (signed_eq neg ?_), k2, k4⟩
    rw [rungVal_mk hB hk1 hk2]
    have := hx hp hlp (by rw [hl]; exact hd)
    rw [← this, Nat.mul_assoc, ← Nat.pow_add]
    congr 2
    omega


theorem rung_parts {B r : Nat} (hB : 0 < B) : ∃ q K : Nat, r = q * B + K ∧ K < 2 * B ∧ (q = 0 ∨ B ≤ K) ∧ rungVal B r = K * 2 ^ q := by
  by_cases h : r < B
  · exact ⟨0, r, by omega, by omega, .inl rfl, by simp [rungVal, h]⟩
  · have hm : r % B < B := Nat.mod_lt _ hB
    have hd := Nat.div_add_mod r B
    have h1 : 1 ≤ r / B := (Nat.le_div_iff_mul_le hB).2 (by omega)
    obtain ⟨q, hq⟩ : ∃ q, r / B = q + 1 := ⟨r / B - 1, by omega⟩
    refine ⟨q, B + r % B, ?_, by omega, .inr (by omega), by rw [rungVal, if_neg h, hq, Nat.add_sub_cancel]⟩
    rw [hq, Nat.mul_add, Nat.mul_comm B q] at hd
    omega

theorem log2_mul_pow {n a : Nat} (h : n ≠ 0) : (n * 2 ^ a).log2 = n.log2 + a := by
  rw [Nat.log2_eq_iff (Nat.mul_ne_zero h (Nat.ne_of_gt (Nat.two_pow_pos _)))]
  have := log2_spec h
  rw [Nat.pow_add, Nat.add_right_comm, Nat.pow_add _ (n.log2 + 1)]
  exact ⟨Nat.mul_le_mul_right _ this.1, Nat.mul_lt_mul_of_pos_right this.2 (Nat.two_pow_pos _)⟩

/-- A number that a rung stands for is written as that rung. -/
theorem nearest_of_value (f : Format) (neg : Bool) {r mag : Nat} {place : Int} (hr : r < f.infRung) (hp : -1074 ≤ place) (hlp : -1074 ≤ f.leastPlace)
    (hv : mag * 2 ^ (place + 1074).toNat = rungVal f.binade r * 2 ^ (f.leastPlace + 1074).toNat) : f.nearest neg mag place = f.word neg r := by
  have hB : 0 < f.binade := Nat.two_pow_pos _
  obtain ⟨q, K, hrq, hK, hq, hval⟩ := rung_parts (r := r) hB
  rw [hval, Nat.mul_assoc, ← Nat.pow_add] at hv
  by_cases hm : mag = 0
  · subst hm
    rw [Nat.zero_mul] at hv
    have hK0 : K = 0 := by
      rcases Nat.mul_eq_zero.1 hv.symm with h | h
      · exact h
      · exact absurd h (Nat.ne_of_gt (Nat.two_pow_pos _))
    have : q = 0 := by omega
    subst hK0 this
    have hr0 : r = 0 := by omega
    unfold Format.nearest
    rw [if_pos rfl, hr0]
  · have hK0 : K ≠ 0 := by
      rintro rfl
      rw [Nat.zero_mul] at hv
      rcases Nat.mul_eq_zero.1 hv with h | h
      · exact hm h
      · exact absurd h (Nat.ne_of_gt (Nat.two_pow_pos _))
    have hlg := congrArg Nat.log2 hv
    rw [log2_mul_pow hm, log2_mul_pow hK0] at hlg
    have hKl : K.log2 ≤ f.fractionBits := by
      have : K.log2 < f.fractionBits + 1 := (Nat.log2_lt hK0).2 (by unfold Format.binade at hK; rw [Nat.pow_succ]; omega)
      omega
    have hKg : q = 0 ∨ K.log2 = f.fractionBits := by
      rcases hq with h | h
      · exact .inl h
      · exact .inr (Nat.le_antisymm hKl ((Nat.le_log2 hK0).2 h))
    obtain ⟨n, kept, hn, hk1, hk2, hl, hx⟩ := nearest_parts f neg place hm
    have hnq : n = q := by omega
    subst hnq
    have hdv : 2 ^ (n + f.leastPlace - place).toNat ∣ mag := by
      rcases Int.le_total (n + f.leastPlace) place with h | h
      · rw [show (n + f.leastPlace - place).toNat = 0 from by omega]
        exact ⟨mag, by simp⟩
      · refine ⟨K, ?_⟩
        have h2 : 0 < 2 ^ (place + 1074).toNat := Nat.two_pow_pos _
        refine Nat.eq_of_mul_eq_mul_right h2 ?_
        rw [hv, Nat.mul_comm (2 ^ _) K, Nat.mul_assoc, ← Nat.pow_add]
        congr 2
        omega
    have hkK : kept = K := by
      have h2 : 0 < 2 ^ (n + f.leastPlace + 1074).toNat := Nat.two_pow_pos _
      refine Nat.eq_of_mul_eq_mul_right h2 ?_
      rw [hx hp hlp hdv, hv]
      congr 2
      omega
    rw [hn, hkK, ← hrq, Nat.min_eq_left (Nat.le_of_lt hr)]

theorem signed_inj {s : Bool} {m a m' a' : Nat} (h : signed s m a = signed s m' a') : m * 2 ^ a = m' * 2 ^ a' := by
  unfold signed at h
  simp only [Nat.shiftLeft_eq] at h
  cases s <;> simp only [Bool.false_eq_true, if_false, if_true] at h <;> omega

/-- A word's sign and rung. -/
theorem word_of (f : Format) {x : Nat} (hx : x < 2 * f.signWeight) : x = f.word (x / f.signWeight % 2 == 1) (x % f.signWeight) := by
  have hpos : 0 < f.signWeight := Nat.two_pow_pos _
  have hd := Nat.div_add_mod x f.signWeight
  have hlt : x / f.signWeight < 2 := (Nat.div_lt_iff_lt_mul hpos).2 hx
  unfold Format.word
  have h01 : x / f.signWeight = 0 ∨ x / f.signWeight = 1 := by
    generalize x / f.signWeight = d at hlt
    omega
  rcases h01 with h | h
  · rw [h] at hd ⊢
    simp at hd ⊢
    exact hd.symm
  · rw [h] at hd ⊢
    simp at hd ⊢
    exact hd.symm

/-- What reading gives. -/
theorem read_cases (f : Format) (x : Nat) : (x % f.signWeight < f.infRung ∧ ∃ m p, f.read x = .number (x / f.signWeight % 2 == 1) m p ∧ f.leastPlace ≤ p ∧ m * 2 ^ (p - f.leastPlace).toNat = rungVal f.binade (x % f.signWeight) ∧
      m < 2 * f.binade ∧ p < f.infRung / f.binade + f.leastPlace) ∨
    (x % f.signWeight = f.infRung ∧ f.binade ≤ f.infRung ∧ f.read x = .infinity (x / f.signWeight % 2 == 1)) ∨ (f.read x).isNaN = true ∨ f.infRung < f.binade := by
  have hB : 0 < f.binade := Nat.two_pow_pos _
  by_cases hsmall : f.infRung < f.binade
  · exact .inr (.inr (.inr hsmall))
  have hq1 : 1 ≤ f.infRung / f.binade := (Nat.le_div_iff_mul_le hB).2 (by omega)
  unfold Format.read
  simp only
  by_cases h1 : x % f.signWeight < f.binade
  · rw [if_pos h1]
    refine .inl ⟨by omega, _, _, rfl, by omega, ?_, by omega, by omega⟩
    rw [rungVal, if_pos h1, Int.sub_self]
    simp
  · rw [if_neg h1]
    by_cases h2 : x % f.signWeight < f.infRung
    · rw [if_pos h2]
      have h3 : x % f.signWeight / f.binade ≤ f.infRung / f.binade := Nat.div_le_div_right (Nat.le_of_lt h2)
      have h4 : x % f.signWeight % f.binade < f.binade := Nat.mod_lt _ hB
      refine .inl ⟨h2, _, _, rfl, by omega, ?_, by omega, by omega⟩
      rw [rungVal, if_neg h1]
      congr 2
      omega
    · rw [if_neg h2]
      by_cases h3 : x % f.signWeight = f.infRung
      · rw [if_pos h3]
        exact .inr (.inl ⟨h3, by omega, rfl⟩)
      · rw [if_neg h3]
        exact .inr (.inr (.inl rfl))


/-! ### A float32 as a float64, and back -/

def up (x : Nat) : Nat := double.write (single.read x)
def down (F : Nat) : Nat := single.write (double.read F)

theorem s_inf : single.infRung = 255 * 8388608 := by decide +kernel
theorem s_bin : single.binade = 8388608 := by decide +kernel
theorem s_sign : single.signWeight = 2147483648 := by decide +kernel
theorem s_lp : single.leastPlace = -149 := by decide +kernel
theorem d_inf : double.infRung = 2047 * 4503599627370496 := by decide +kernel
theorem d_bin : double.binade = 4503599627370496 := by decide +kernel
theorem d_sign : double.signWeight = 9223372036854775808 := by decide +kernel
theorem d_lp : double.leastPlace = -1074 := by decide +kernel
theorem d_frac : double.fractionBits = 52 := rfl
theorem s_frac : single.fractionBits = 23 := rfl

theorem read_inf_d (s : Bool) : double.read (double.word s double.infRung) = .infinity s := by cases s <;> decide +kernel
theorem read_inf_s (s : Bool) : single.read (single.word s single.infRung) = .infinity s := by cases s <;> decide +kernel

theorem log2_lt_of {m k : Nat} (h : m < 2 ^ (k + 1)) : m.log2 ≤ k := by
  by_cases h0 : m = 0
  · subst h0; simp
  · have := (Nat.log2_lt h0).2 h
    omega

theorem up_number {s : Bool} {m : Nat} {p : Int} (hm : m < 2 ^ 53) (h1 : -1074 ≤ p) (h2 : p ≤ 900) :
    key (double.read (double.nearest s m p)) = some (signed s m (p + 1074).toNat) ∧ (double.read (double.nearest s m p)).neg = s ∧ (double.read (double.nearest s m p)).isInfinity = false := by
  have hl : m.log2 ≤ 52 := log2_lt_of hm
  refine key_nearest double s m p h1 (by rw [d_lp]; omega) ?_ (by rw [d_inf]; omega) ?_ ?_
  · rw [show (max (p + m.log2 - double.fractionBits) double.leastPlace - p).toNat = 0 from by rw [d_lp, d_frac]; omega]
    exact ⟨m, by simp⟩
  · rw [d_inf, d_bin, d_lp, d_frac]; omega
  · rw [d_inf, d_bin]; omega

theorem not_nan_of_key {d : Datum} {k : Int} (h : key d = some k) : d.isNaN = false := by cases d <;> first | rfl | cases h

theorem up_key {x : Nat} (hn : (single.read x).isNaN = false) : key64 (up x) = key32 x ∧ (double.read (up x)).neg = (single.read x).neg ∧ (double.read (up x)).isNaN = false ∧ (double.read (up x)).isInfinity = (single.read x).isInfinity := by
  rcases read_cases single x with ⟨hr, m, p, hx, hp, hv, hm, hq⟩ | ⟨_, _, hx⟩ | h | h
  · rw [s_bin] at hm
    rw [s_lp] at hp
    rw [s_inf, s_bin, s_lp] at hq
    unfold key64 key32 up
    rw [hx]
    obtain ⟨h1, h2, h3⟩ := up_number (s := x / single.signWeight % 2 == 1) (m := m) (p := p) (by omega) (by omega) (by omega)
    exact ⟨h1, h2, not_nan_of_key h1, h3⟩
  · unfold key64 key32 up
    rw [hx]
    simp only [Format.write]
    rw [read_inf_d]
    exact ⟨rfl, rfl, rfl, rfl⟩
  · rw [h] at hn; cases hn
  · rw [s_inf, s_bin] at h; omega

theorem down_up {x : Nat} (hx : x < 4294967296) (hn : (single.read x).isNaN = false) : down (up x) = x := by
  have hw := word_of single (x := x) (by rw [s_sign]; omega)
  obtain ⟨hk, hs, hnn, _⟩ := up_key hn
  rcases read_cases single x with ⟨hr, m, p, hxr, hp, hv, hm, hq⟩ | ⟨he, _, hxr⟩ | h | h
  · rw [s_lp] at hp
    unfold key64 key32 at hk
    rw [hxr] at hk hs
    unfold down
    rcases read_cases double (up x) with ⟨_, m', p', hxr', hp', _, _, _⟩ | ⟨_, _, hxr'⟩ | h' | h'
    · rw [d_lp] at hp'
      rw [hxr'] at hk hs ⊢
      replace hs : (up x / double.signWeight % 2 == 1) = (x / single.signWeight % 2 == 1) := hs
      rw [hs] at hk ⊢
      simp only [key, Option.some.injEq] at hk
      have hk2 := signed_inj hk
      simp only [Format.write]
      rw [nearest_of_value single _ hr hp' (by rw [s_lp]; omega) ?_]
      · exact hw.symm
      · rw [hk2, ← hv, Nat.mul_assoc, ← Nat.pow_add, s_lp]
        congr 2
        omega
    · rw [hxr'] at hk
      rw [s_bin] at hm
      rw [s_inf, s_bin, s_lp] at hq
      have hb := signed_bound (x / single.signWeight % 2 == 1) m (p + 1074).toNat (by omega) (by omega)
      simp only [key, Option.some.injEq] at hk
      rw [← hk] at hb
      generalize hbig : big = B at *
      have hpos : 0 < B := by rw [← hbig]; exact big_pos
      split at hb <;> omega
    · rw [h'] at hnn; cases hnn
    · rw [d_inf, d_bin] at h'; omega
  · unfold down up
    rw [hxr]
    simp only [Format.write]
    rw [read_inf_d]
    rw [← he]
    exact hw.symm
  · rw [h] at hn; cases hn
  · rw [s_inf, s_bin] at h; omega

end Go.Proofs.YtffgkocokkhahaaGreatDoor.Flt

/- The values of the database as plain data, and their order. Nothing of Go's memory here. -/
namespace Go.Proofs.YtffgkocokkhahaaGreatDoor

/-- A value of the database. -/
inductive SV where
  | null
  | bool (b : Bool)
  | int (k : IntKind) (n : Int)
  | f32 (x : Nat)
  | f64 (x : Nat)
  | str (s : ByteArray)
  | blob (s : List UInt8)
  | iInt (n : Int)
  | iRune (n : Int)
  | iUint (n : Int)
  | iFloat (x : Nat)

def SV.isLit : SV → Bool
  | .iInt _ | .iRune _ | .iUint _ | .iFloat _ => true
  | _ => false

def kindRank : IntKind → Int
  | .i8 => 11 | .i16 => 12 | .i32 => 13 | .i64 => 14 | .u8 => 15 | .u16 => 16 | .u32 => 17 | .u64 => 18

def SV.rank : SV → Int
  | .null => 0 | .bool _ => 1 | .iFloat _ => 5 | .f32 _ => 6 | .f64 _ => 7 | .iInt _ => 8 | .iRune _ => 9 | .iUint _ => 10
  | .int k _ => kindRank k | .str _ => 23 | .blob _ => 24

def three (lt eq : Bool) : Int := if lt then -1 else if eq then 0 else 1

def byRank (a b : SV) : Int := if a.rank < b.rank then -1 else if a.rank > b.rank then 1 else 0

def bytesOrd (x y : List UInt8) : Int := three (Op.bytesLess x y) (x == y)

/-- collate1 of values that are no literals'. -/
def SV.coll : SV → SV → Int
  | .null, .null => 0
  | .null, _ => -1
  | .bool _, .null => 1
  | .bool x, .bool y => three (!x && y) (x == y)
  | .bool _, _ => -1
  | .int k x, .int l y => if k = l then three (decide (x < y)) (x == y) else byRank (.int k x) (.int l y)
  | .f32 x, .f32 y => three (Ieee.single.order x y == some .lt) (Ieee.single.order x y == some .eq)
  | .f64 x, .f64 y => three (Ieee.double.order x y == some .lt) (Ieee.double.order x y == some .eq)
  | .str x, .str y => bytesOrd x.toList y.toList
  | .blob x, .blob y => bytesOrd x y
  | _, .null => 1
  | a, b => byRank a b

/-- A value of a type, and a number, if it is a float. -/
def SV.plain : SV → Prop
  | .iInt _ | .iRune _ | .iUint _ | .iFloat _ => False
  | .f32 x => Ieee.single.order x x = some .eq
  | .f64 x => Ieee.double.order x x = some .eq
  | _ => True

/-! ### The order is one -/

def icmp (x y : Int) : Int := if x < y then -1 else if x = y then 0 else 1

/-- A key of the floats on one scale. -/
def SV.key : SV → Int
  | .bool b => if b then 1 else 0
  | .int _ n => n
  | .f32 x => (Flt.key32 x).getD 0
  | .f64 x => (Flt.key64 x).getD 0
  | _ => 0
def SV.text : SV → List UInt8
  | .str s => s.toList
  | .blob s => s
  | _ => []

theorem compare_icmp (x y : Int) : compare x y = if x < y then .lt else if x = y then .eq else .gt := rfl

theorem order_three {o : Option Ordering} {x y : Int} (h : o = some (compare x y)) : three (o == some .lt) (o == some .eq) = icmp x y := by
  subst h
  rw [compare_icmp]
  unfold three icmp
  by_cases h1 : x < y
  · simp [h1]
  · by_cases h2 : x = y
    · simp [h2]
    · simp [h1, h2]

theorem key32_some {x : Nat} (h : Ieee.single.order x x = some .eq) : Flt.key32 x = some ((Flt.key32 x).getD 0) := by
  rw [Flt.order32] at h
  cases hk : Flt.key32 x with
  | none => rw [hk] at h; cases h
  | some k => rfl
theorem key64_some {x : Nat} (h : Ieee.double.order x x = some .eq) : Flt.key64 x = some ((Flt.key64 x).getD 0) := by
  rw [Flt.order64] at h
  cases hk : Flt.key64 x with
  | none => rw [hk] at h; cases h
  | some k => rfl

/-- Lexicographic order of bytes as a number. -/
def tcmp (x y : List UInt8) : Int := bytesOrd x y

theorem bytesLess_irrefl (x : List UInt8) : Op.bytesLess x x = false := by
  induction x with
  | nil => rfl
  | cons a x ih => simp [Op.bytesLess, ih]

theorem bytesLess_trans : ∀ {x y z : List UInt8}, Op.bytesLess x y = true → Op.bytesLess y z = true → Op.bytesLess x z = true
  | _, [], _, h, _ => by cases ‹List UInt8› <;> simp [Op.bytesLess] at h
  | _, _ :: _, [], _, h => by simp [Op.bytesLess] at h
  | [], _ :: _, _ :: _, _, _ => by simp [Op.bytesLess]
  | a :: x, b :: y, c :: z, h1, h2 => by
    simp only [Op.bytesLess, Bool.or_eq_true, decide_eq_true_eq, Bool.and_eq_true, beq_iff_eq] at *
    rcases h1 with h1 | ⟨rfl, h1⟩
    · rcases h2 with h2 | ⟨rfl, h2⟩
      · exact .inl (UInt8.lt_trans h1 h2)
      · exact .inl h1
    · rcases h2 with h2 | ⟨rfl, h2⟩
      · exact .inl h2
      · exact .inr ⟨rfl, bytesLess_trans h1 h2⟩

theorem bytesLess_total : ∀ (x y : List UInt8), Op.bytesLess x y = false → x ≠ y → Op.bytesLess y x = true
  | [], [], _, h => absurd rfl h
  | [], _ :: _, h, _ => by simp [Op.bytesLess] at h
  | _ :: _, [], _, _ => by simp [Op.bytesLess]
  | a :: x, b :: y, h, hne => by
    simp only [Op.bytesLess, Bool.or_eq_false_iff, decide_eq_false_iff_not, Bool.and_eq_false_iff, beq_eq_false_iff_ne, Bool.or_eq_true, decide_eq_true_eq, Bool.and_eq_true, beq_iff_eq] at *
    by_cases hab : a = b
    · subst hab
      refine .inr ⟨rfl, bytesLess_total x y ?_ (fun e => hne (by rw [e]))⟩
      rcases h.2 with h' | h'
      · exact absurd rfl h'
      · exact h'
    · left
      have := h.1
      rcases UInt8.lt_or_lt_of_ne hab with h' | h'
      · exact absurd h' this
      · exact h'


def SV.lex (a b : SV) : Int :=
  if a.rank < b.rank then -1 else if b.rank < a.rank then 1 else if a.key < b.key then -1 else if b.key < a.key then 1 else bytesOrd a.text b.text

theorem lex_ne {a b : SV} (h : a.rank ≠ b.rank) : byRank a b = a.lex b := by
  unfold byRank SV.lex
  by_cases h1 : a.rank < b.rank
  · simp [h1]
  · have h2 : b.rank < a.rank := by omega
    simp [h1, h2]

theorem lex_lt {a b : SV} (h : a.rank < b.rank) : a.lex b = -1 := by
  unfold SV.lex
  rw [if_pos h]
theorem lex_gt {a b : SV} (h : b.rank < a.rank) : a.lex b = 1 := by
  unfold SV.lex
  rw [if_neg (by omega), if_pos h]
theorem lex_eq (a b : SV) (h : a.rank = b.rank) (ht : a.text = b.text) : a.lex b = icmp a.key b.key := by
  have hb : bytesOrd b.text b.text = 0 := by simp [bytesOrd, three, bytesLess_irrefl]
  unfold SV.lex icmp
  rw [if_neg (by omega), if_neg (by omega), ht, hb]
  by_cases h1 : a.key < b.key
  · simp [h1]
  · by_cases h2 : b.key < a.key
    · rw [if_neg h1, if_pos h2, if_neg h1, if_neg (by omega)]
    · rw [if_neg h1, if_neg h2, if_neg h1, if_pos (by omega)]

theorem lex_text (a b : SV) (h : a.rank = b.rank) (hk : a.key = b.key) : a.lex b = bytesOrd a.text b.text := by
  unfold SV.lex
  rw [if_neg (by omega), if_neg (by omega), if_neg (by omega), if_neg (by omega)]

theorem kindRank_inj {k l : IntKind} (h : kindRank k = kindRank l) : k = l := by cases k <;> cases l <;> first | rfl | (exact absurd h (by decide))
theorem kindRank_bounds (k : IntKind) : 11 ≤ kindRank k ∧ kindRank k ≤ 18 := by cases k <;> decide

theorem three_int (x y : Int) : three (decide (x < y)) (x == y) = icmp x y := by
  unfold three icmp
  by_cases h1 : x < y <;> by_cases h2 : x = y <;> simp [h1, h2]

theorem coll_lex {a b : SV} (ha : a.plain) (hb : b.plain) : a.coll b = a.lex b := by
  cases a with
  | null => cases b with
    | null => rfl
    | int k n => have := kindRank_bounds k; exact (lex_lt (by simp only [SV.rank]; omega)).symm
    | _ => first | rfl | exact hb.elim
  | bool x => cases b with
    | bool y => cases x <;> cases y <;> rfl
    | int k n => have := kindRank_bounds k; exact (lex_lt (by simp only [SV.rank]; omega)).symm
    | _ => first | rfl | exact hb.elim
  | int k n =>
    have hk := kindRank_bounds k
    cases b with
    | int l m =>
      simp only [SV.coll]
      by_cases hkl : k = l
      · subst hkl
        rw [if_pos rfl, lex_eq (.int k n) (.int k m) rfl rfl, three_int]
        rfl
      · rw [if_neg hkl]
        exact lex_ne (fun h => hkl (kindRank_inj h))
    | null => exact (lex_gt (by simp only [SV.rank]; omega)).symm
    | _ => first | exact lex_ne (by simp only [SV.rank]; omega) | exact hb.elim
  | f32 x =>
    cases b with
    | f32 y =>
      rw [lex_eq (.f32 x) (.f32 y) rfl rfl]
      simp only [SV.coll, SV.key]
      refine order_three ?_
      rw [Flt.order32, key32_some ha, key32_some hb]
      rfl
    | int k n => have := kindRank_bounds k; exact lex_ne (by simp only [SV.rank]; omega)
    | _ => first | rfl | exact hb.elim
  | f64 x =>
    cases b with
    | f64 y =>
      rw [lex_eq (.f64 x) (.f64 y) rfl rfl]
      simp only [SV.coll, SV.key]
      refine order_three ?_
      rw [Flt.order64, key64_some ha, key64_some hb]
      rfl
    | int k n => have := kindRank_bounds k; exact lex_ne (by simp only [SV.rank]; omega)
    | _ => first | rfl | exact hb.elim
  | str s =>
    cases b with
    | str t => exact (lex_text (.str s) (.str t) rfl rfl).symm
    | int k n => have := kindRank_bounds k; exact lex_ne (by simp only [SV.rank]; omega)
    | _ => first | rfl | exact hb.elim
  | blob s =>
    cases b with
    | blob t => exact (lex_text (.blob s) (.blob t) rfl rfl).symm
    | int k n => have := kindRank_bounds k; exact lex_ne (by simp only [SV.rank]; omega)
    | _ => first | rfl | exact hb.elim
  | _ => exact ha.elim

theorem bytesOrd_cases (x y : List UInt8) : (bytesOrd x y = -1 ∧ Op.bytesLess x y = true) ∨ (bytesOrd x y = 0 ∧ x = y) ∨ (bytesOrd x y = 1 ∧ Op.bytesLess y x = true) := by
  unfold bytesOrd three
  by_cases h : Op.bytesLess x y = true
  · simp [h]
  · by_cases he : x = y
    · subst he; simp [bytesLess_irrefl]
    · have := bytesLess_total x y (by simpa using h) he
      simp [h, he, this]

theorem bytesOrd_chain (x y z : List UInt8) : (bytesOrd x y ≤ 0 → bytesOrd y z ≤ 0 → bytesOrd x z ≤ 0 ∧ (bytesOrd x z = 0 → bytesOrd x y = 0 ∧ bytesOrd y z = 0)) ∧
    (0 ≤ bytesOrd x y → 0 ≤ bytesOrd y z → 0 ≤ bytesOrd x z ∧ (bytesOrd x z = 0 → bytesOrd x y = 0 ∧ bytesOrd y z = 0)) := by
  have irr := bytesLess_irrefl
  have contra : ∀ {p q : List UInt8}, Op.bytesLess p q = true → Op.bytesLess q p = true → False := fun h1 h2 => by
    have := bytesLess_trans h1 h2
    rw [irr] at this
    cases this
  have fwd : ∀ {p q : List UInt8}, Op.bytesLess p q = true → bytesOrd p q = -1 := fun h => by simp [bytesOrd, three, h]
  have bwd : ∀ {p q : List UInt8}, Op.bytesLess q p = true → bytesOrd p q = 1 := fun {p q} h => by
    rcases bytesOrd_cases p q with ⟨_, h2⟩ | ⟨_, rfl⟩ | ⟨h1, _⟩
    · exact (contra h h2).elim
    · rw [irr] at h; cases h
    · exact h1
  rcases bytesOrd_cases x y with ⟨e1, h1⟩ | ⟨e1, h1⟩ | ⟨e1, h1⟩ <;> rcases bytesOrd_cases y z with ⟨e2, h2⟩ | ⟨e2, h2⟩ | ⟨e2, h2⟩
  all_goals rw [e1, e2]
  all_goals first
    | (have := fwd (bytesLess_trans h1 h2); omega)
    | (have := bwd (bytesLess_trans h2 h1); omega)
    | (subst h1; omega)
    | (subst h2; omega)
    | omega

/-- The order chains. -/
theorem lex_chain (a b c : SV) : (a.lex b ≤ 0 → b.lex c ≤ 0 → a.lex c ≤ 0 ∧ (a.lex c = 0 → a.lex b = 0 ∧ b.lex c = 0)) ∧
    (0 ≤ a.lex b → 0 ≤ b.lex c → 0 ≤ a.lex c ∧ (a.lex c = 0 → a.lex b = 0 ∧ b.lex c = 0)) := by
  obtain ⟨t1, t2⟩ := bytesOrd_chain a.text b.text c.text
  unfold SV.lex
  generalize bytesOrd a.text b.text = x at *
  generalize bytesOrd b.text c.text = y at *
  generalize bytesOrd a.text c.text = z at *
  generalize a.rank = r at *
  generalize b.rank = s at *
  generalize c.rank = t at *
  generalize a.key = k at *
  generalize b.key = l at *
  generalize c.key = m at *
  constructor
  · intro h1 h2
    split at h1 <;> split at h2 <;> split <;> omega
  · intro h1 h2
    split at h1 <;> split at h2 <;> split <;> omega

end Go.Proofs.YtffgkocokkhahaaGreatDoor

/- The kinds of values by their names, and which values are valid. Plain data; nothing of Go's memory here. -/
namespace Go.Proofs.YtffgkocokkhahaaGreatDoor

/-- The kinds of values. -/
inductive Kd where
  | null | bool | int (k : IntKind) | f32 | f64 | str | blob | iInt | iRune | iUint | iFloat | other
  deriving DecidableEq

def Kd.lit : Kd → List UInt8
  | .null | .other => []
  | .bool => [98, 111, 111, 108]
  | .int .i8 => [105, 110, 116, 56]
  | .int .i16 => [105, 110, 116, 49, 54]
  | .int .i32 => [105, 110, 116, 51, 50]
  | .int .i64 => [105, 110, 116, 54, 52]
  | .int .u8 => [117, 105, 110, 116, 56]
  | .int .u16 => [117, 105, 110, 116, 49, 54]
  | .int .u32 => [117, 105, 110, 116, 51, 50]
  | .int .u64 => [117, 105, 110, 116, 54, 52]
  | .f32 => [102, 108, 111, 97, 116, 51, 50]
  | .f64 => [102, 108, 111, 97, 116, 54, 52]
  | .str => [115, 116, 114, 105, 110, 103]
  | .blob => [98, 108, 111, 98]
  | .iInt => [105, 100, 101, 97, 108, 73, 110, 116]
  | .iRune => [105, 100, 101, 97, 108, 82, 117, 110, 101]
  | .iUint => [105, 100, 101, 97, 108, 85, 105, 110, 116]
  | .iFloat => [105, 100, 101, 97, 108, 70, 108, 111, 97, 116]

/-- The kind of a name. -/
def Kd.of (l : List UInt8) : Kd :=
  if l == [98, 111, 111, 108] then .bool else
  if l == [105, 110, 116, 56] then .int .i8 else
  if l == [105, 110, 116, 49, 54] then .int .i16 else
  if l == [105, 110, 116, 51, 50] then .int .i32 else
  if l == [105, 110, 116, 54, 52] then .int .i64 else
  if l == [117, 105, 110, 116, 56] then .int .u8 else
  if l == [117, 105, 110, 116, 49, 54] then .int .u16 else
  if l == [117, 105, 110, 116, 51, 50] then .int .u32 else
  if l == [117, 105, 110, 116, 54, 52] then .int .u64 else
  if l == [102, 108, 111, 97, 116, 51, 50] then .f32 else
  if l == [102, 108, 111, 97, 116, 54, 52] then .f64 else
  if l == [115, 116, 114, 105, 110, 103] then .str else
  if l == [98, 108, 111, 98] then .blob else
  if l == [105, 100, 101, 97, 108, 73, 110, 116] then .iInt else
  if l == [105, 100, 101, 97, 108, 82, 117, 110, 101] then .iRune else
  if l == [105, 100, 101, 97, 108, 85, 105, 110, 116] then .iUint else
  if l == [105, 100, 101, 97, 108, 70, 108, 111, 97, 116] then .iFloat else
  if l.isEmpty then .null else .other

theorem Kd.of_lit (l : List UInt8) {kd : Kd} (h : Kd.of l = kd) (hk : kd ≠ .other) : l = kd.lit := by
  subst h
  unfold Kd.of at hk ⊢
  by_cases h : (l == [98, 111, 111, 108]) = true
  · rw [if_pos h]; exact eq_of_beq h
  rw [if_neg h] at hk ⊢
  clear h
  by_cases h : (l == [105, 110, 116, 56]) = true
  · rw [if_pos h]; exact eq_of_beq h
  rw [if_neg h] at hk ⊢
  clear h
  by_cases h : (l == [105, 110, 116, 49, 54]) = true
  · rw [if_pos h]; exact eq_of_beq h
  rw [if_neg h] at hk ⊢
  clear h
  by_cases h : (l == [105, 110, 116, 51, 50]) = true
  · rw [if_pos h]; exact eq_of_beq h
  rw [if_neg h] at hk ⊢
  clear h
  by_cases h : (l == [105, 110, 116, 54, 52]) = true
  · rw [if_pos h]; exact eq_of_beq h
  rw [if_neg h] at hk ⊢
  clear h
  by_cases h : (l == [117, 105, 110, 116, 56]) = true
  · rw [if_pos h]; exact eq_of_beq h
  rw [if_neg h] at hk ⊢
  clear h
  by_cases h : (l == [117, 105, 110, 116, 49, 54]) = true
  · rw [if_pos h]; exact eq_of_beq h
  rw [if_neg h] at hk ⊢
  clear h
  by_cases h : (l == [117, 105, 110, 116, 51, 50]) = true
  · rw [if_pos h]; exact eq_of_beq h
  rw [if_neg h] at hk ⊢
  clear h
  by_cases h : (l == [117, 105, 110, 116, 54, 52]) = true
  · rw [if_pos h]; exact eq_of_beq h
  rw [if_neg h] at hk ⊢
  clear h
  by_cases h : (l == [102, 108, 111, 97, 116, 51, 50]) = true
  · rw [if_pos h]; exact eq_of_beq h
  rw [if_neg h] at hk ⊢
  clear h
  by_cases h : (l == [102, 108, 111, 97, 116, 54, 52]) = true
  · rw [if_pos h]; exact eq_of_beq h
  rw [if_neg h] at hk ⊢
  clear h
  by_cases h : (l == [115, 116, 114, 105, 110, 103]) = true
  · rw [if_pos h]; exact eq_of_beq h
  rw [if_neg h] at hk ⊢
  clear h
  by_cases h : (l == [98, 108, 111, 98]) = true
  · rw [if_pos h]; exact eq_of_beq h
  rw [if_neg h] at hk ⊢
  clear h
  by_cases h : (l == [105, 100, 101, 97, 108, 73, 110, 116]) = true
  · rw [if_pos h]; exact eq_of_beq h
  rw [if_neg h] at hk ⊢
  clear h
  by_cases h : (l == [105, 100, 101, 97, 108, 82, 117, 110, 101]) = true
  · rw [if_pos h]; exact eq_of_beq h
  rw [if_neg h] at hk ⊢
  clear h
  by_cases h : (l == [105, 100, 101, 97, 108, 85, 105, 110, 116]) = true
  · rw [if_pos h]; exact eq_of_beq h
  rw [if_neg h] at hk ⊢
  clear h
  by_cases h : (l == [105, 100, 101, 97, 108, 70, 108, 111, 97, 116]) = true
  · rw [if_pos h]; exact eq_of_beq h
  rw [if_neg h] at hk ⊢
  clear h
  by_cases h : l.isEmpty = true
  · rw [if_pos h]; exact List.isEmpty_iff.1 h
  · rw [if_neg h] at hk; exact absurd rfl hk

theorem Kd.of_other (l : List UInt8) (h : Kd.of l = .other) : (l == [98, 111, 111, 108]) = false ∧ (l == [105, 110, 116, 56]) = false ∧ (l == [105, 110, 116, 49, 54]) = false ∧ (l == [105, 110, 116, 51, 50]) = false ∧ (l == [105, 110, 116, 54, 52]) = false ∧ (l == [117, 105, 110, 116, 56]) = false ∧ (l == [117, 105, 110, 116, 49, 54]) = false ∧ (l == [117, 105, 110, 116, 51, 50]) = false ∧ (l == [117, 105, 110, 116, 54, 52]) = false ∧ (l == [102, 108, 111, 97, 116, 51, 50]) = false ∧ (l == [102, 108, 111, 97, 116, 54, 52]) = false ∧ (l == [115, 116, 114, 105, 110, 103]) = false ∧ (l == [98, 108, 111, 98]) = false ∧ (l == [105, 100, 101, 97, 108, 73, 110, 116]) = false ∧ (l == [105, 100, 101, 97, 108, 82, 117, 110, 101]) = false ∧ (l == [105, 100, 101, 97, 108, 85, 105, 110, 116]) = false ∧ (l == [105, 100, 101, 97, 108, 70, 108, 111, 97, 116]) = false ∧ l.isEmpty = false := by
  unfold Kd.of at h
  by_cases h0 : (l == [98, 111, 111, 108]) = true
  · rw [if_pos h0] at h; cases h
  rw [if_neg h0] at h
  by_cases h1 : (l == [105, 110, 116, 56]) = true
  · rw [if_pos h1] at h; cases h
  rw [if_neg h1] at h
  by_cases h2 : (l == [105, 110, 116, 49, 54]) = true
  · rw [if_pos h2] at h; cases h
  rw [if_neg h2] at h
  by_cases h3 : (l == [105, 110, 116, 51, 50]) = true
  · rw [if_pos h3] at h; cases h
  rw [if_neg h3] at h
  by_cases h4 : (l == [105, 110, 116, 54, 52]) = true
  · rw [if_pos h4] at h; cases h
  rw [if_neg h4] at h
  by_cases h5 : (l == [117, 105, 110, 116, 56]) = true
  · rw [if_pos h5] at h; cases h
  rw [if_neg h5] at h
  by_cases h6 : (l == [117, 105, 110, 116, 49, 54]) = true
  · rw [if_pos h6] at h; cases h
  rw [if_neg h6] at h
  by_cases h7 : (l == [117, 105, 110, 116, 51, 50]) = true
  · rw [if_pos h7] at h; cases h
  rw [if_neg h7] at h
  by_cases h8 : (l == [117, 105, 110, 116, 54, 52]) = true
  · rw [if_pos h8] at h; cases h
  rw [if_neg h8] at h
  by_cases h9 : (l == [102, 108, 111, 97, 116, 51, 50]) = true
  · rw [if_pos h9] at h; cases h
  rw [if_neg h9] at h
  by_cases h10 : (l == [102, 108, 111, 97, 116, 54, 52]) = true
  · rw [if_pos h10] at h; cases h
  rw [if_neg h10] at h
  by_cases h11 : (l == [115, 116, 114, 105, 110, 103]) = true
  · rw [if_pos h11] at h; cases h
  rw [if_neg h11] at h
  by_cases h12 : (l == [98, 108, 111, 98]) = true
  · rw [if_pos h12] at h; cases h
  rw [if_neg h12] at h
  by_cases h13 : (l == [105, 100, 101, 97, 108, 73, 110, 116]) = true
  · rw [if_pos h13] at h; cases h
  rw [if_neg h13] at h
  by_cases h14 : (l == [105, 100, 101, 97, 108, 82, 117, 110, 101]) = true
  · rw [if_pos h14] at h; cases h
  rw [if_neg h14] at h
  by_cases h15 : (l == [105, 100, 101, 97, 108, 85, 105, 110, 116]) = true
  · rw [if_pos h15] at h; cases h
  rw [if_neg h15] at h
  by_cases h16 : (l == [105, 100, 101, 97, 108, 70, 108, 111, 97, 116]) = true
  · rw [if_pos h16] at h; cases h
  rw [if_neg h16] at h
  by_cases he : l.isEmpty = true
  · rw [if_pos he] at h; cases h
  exact ⟨Bool.eq_false_iff.2 h0, Bool.eq_false_iff.2 h1, Bool.eq_false_iff.2 h2, Bool.eq_false_iff.2 h3, Bool.eq_false_iff.2 h4, Bool.eq_false_iff.2 h5, Bool.eq_false_iff.2 h6, Bool.eq_false_iff.2 h7, Bool.eq_false_iff.2 h8, Bool.eq_false_iff.2 h9, Bool.eq_false_iff.2 h10, Bool.eq_false_iff.2 h11, Bool.eq_false_iff.2 h12, Bool.eq_false_iff.2 h13, Bool.eq_false_iff.2 h14, Bool.eq_false_iff.2 h15, Bool.eq_false_iff.2 h16, Bool.eq_false_iff.2 he⟩

/-- How many binary digits an integer kind has; whether it has a sign. -/
def Kd.width : Kd → Int
  | .int .i8 | .int .u8 => 8
  | .int .i16 | .int .u16 => 16
  | .int .i32 | .int .u32 | .iRune => 32
  | .int .i64 | .int .u64 | .iInt | .iUint => 64
  | _ => 0
def Kd.sgn : Kd → Bool
  | .int .i8 | .int .i16 | .int .i32 | .int .i64 | .iInt | .iRune => true
  | _ => false
def Kd.flt : Kd → Bool
  | .f32 | .f64 | .iFloat => true
  | _ => false
def Kd.ideal : Kd → Bool
  | .iInt | .iRune | .iUint | .iFloat => true
  | _ => false

/-- A float is a number. -/
def numB (f : Nat) : Bool := Ieee.double.order f f == some .eq
/-- A float's digits; all that are no numbers alike. -/
def bitsV (f : Nat) : Nat := if numB f = true then f else 1

/-- A double is one of float32's numbers, or none. -/
def single64 (f : Nat) : Bool := !numB f || (Flt.up (Flt.down f) == f && !((Ieee.single.read (Flt.down f)).isInfinity && !(Ieee.double.read f).isInfinity))

def zeros (f : Nat) (s : ByteArray) : Bool := bitsV f == 0 && s.toList.isEmpty

/-- What 'valid' tells. -/
def validB (kd : Kd) (n u : Int) (f : Nat) (s : ByteArray) : Bool :=
  match kd with
  | .int .i8 => u == 0 && zeros f s && n / 128 == n / 9223372036854775808
  | .int .i16 => u == 0 && zeros f s && n / 32768 == n / 9223372036854775808
  | .int .i32 | .iRune => u == 0 && zeros f s && n / 2147483648 == n / 9223372036854775808
  | .int .i64 | .iInt => u == 0 && zeros f s && n / 9223372036854775808 == n / 9223372036854775808
  | .int .u8 => n == 0 && zeros f s && u / 256 == 0
  | .int .u16 => n == 0 && zeros f s && u / 65536 == 0
  | .int .u32 => n == 0 && zeros f s && u / 4294967296 == 0
  | .int .u64 | .iUint => n == 0 && zeros f s
  | .f32 => n == 0 && u == 0 && s.toList.isEmpty && single64 f
  | .f64 | .iFloat => n == 0 && u == 0 && s.toList.isEmpty
  | .bool => u == 0 && zeros f s && (n == 0 || n == 1)
  | .str | .blob => n == 0 && u == 0 && bitsV f == 0 && decide ((s.size : Int) ≤ 65536)
  | .null => n == 0 && u == 0 && zeros f s
  | .other => false

end Go.Proofs.YtffgkocokkhahaaGreatDoor

/- The walks of the small functions: width, isIdeal, isFloat, bits, zzFits1. -/
namespace Go.Proofs.YtffgkocokkhahaaGreatDoor
open Go.RowKit

theorem bcell {W w1 : World} (hb : Below W.heap.size W w1) : (∀ b o, b < W.heap.size → w1.cell? ⟨b, o, none⟩ = W.cell? ⟨b, o, none⟩) ∧ (∀ b o, b < W.heap.size → w1.frozen? ⟨b, o, none⟩ = W.frozen? ⟨b, o, none⟩) :=
  ⟨fun b o h => hb.cell (p := ⟨b, o, none⟩) h, fun b o h => hb.frozen (p := ⟨b, o, none⟩) h⟩

theorem quiet_of_left {P : Program} {f : FuncId} {args : Array Value} {w : World} {n : Nat} {v : Value}
    (h : Calls P f args (w.drewN n) fun e w' => e = .returned v ∧ w.drewN n = w') : Calls P f args (w.drewN n) fun e w'' => e = .returned v ∧ ∃ m, w'' = w.drewN m :=
  h.mono fun _ _ ⟨he, hm⟩ => ⟨he, n, hm.symm⟩

theorem quiet_add_left {P : Program} {f : FuncId} {args : Array Value} {w : World} {a n : Nat} {v : Value}
    (h : Calls P f args (w.drewN (a + n)) fun e w' => e = .returned v ∧ w.drewN (a + n) = w') :
    Calls P f args (w.drewN (a + n)) fun e w'' => e = .returned v ∧ ∃ m, w'' = w.drewN (a + m) :=
  h.mono fun _ _ ⟨he, hm⟩ => ⟨he, n, hm.symm⟩

section
variable {P : Program} (w : World) (a : Addr) (m : Mode)
/-- A float is stored as any one cell. -/
@[go_sem] theorem run_store_float (k : FloatKind) (b : Nat) : (store a (.float k b) m).run P w = stored P w a (.float k b) m := run_store P w a _ m rfl
end

set_option maxHeartbeats 400000 in
theorem width_any (k : ByteArray) (w : World) :
    Calls Tryz.prog 76 #[.string k] w fun e w' => e = .returned (.tuple #[.int .i64 (Kd.of k.toList).width, .bool (Kd.of k.toList).sgn]) ∧ w = w' := by
  cases hk : Kd.of k.toList
  case other =>
    obtain ⟨h1, h2, h3, h4, h5, h6, h7, h8, h9, h10, h11, h12, h13, h14, h15, h16, h17, h18⟩ := Kd.of_other _ hk
    clear hk
    go_enter Tryz.func76, Tryz.ntmps76
    go_wp2
    go_ret2
    exact ⟨rfl, rfl⟩
  case int q =>
    have hl := Kd.of_lit _ hk (by simp)
    clear hk
    cases q <;> (simp only [Kd.lit] at hl; go_enter Tryz.func76, Tryz.ntmps76; go_wp2; go_ret2; exact ⟨rfl, rfl⟩)
  all_goals
    have hl := Kd.of_lit _ hk (by simp)
    clear hk
    simp only [Kd.lit] at hl
    go_enter Tryz.func76, Tryz.ntmps76
    go_wp2
    go_ret2
    exact ⟨rfl, rfl⟩

set_option maxHeartbeats 400000 in
theorem isIdeal_any (k : ByteArray) (w : World) :
    Calls Tryz.prog 51 #[.string k] w fun e w' => e = .returned (.bool (Kd.of k.toList).ideal) ∧ w = w' := by
  cases hk : Kd.of k.toList
  case other =>
    obtain ⟨h1, h2, h3, h4, h5, h6, h7, h8, h9, h10, h11, h12, h13, h14, h15, h16, h17, h18⟩ := Kd.of_other _ hk
    clear hk
    go_enter Tryz.func51, Tryz.ntmps51
    go_wp2
    go_ret
    exact ⟨rfl, rfl⟩
  case int q =>
    have hl := Kd.of_lit _ hk (by simp)
    clear hk
    cases q <;> (simp only [Kd.lit] at hl; go_enter Tryz.func51, Tryz.ntmps51; go_wp2; go_ret; exact ⟨rfl, rfl⟩)
  all_goals
    have hl := Kd.of_lit _ hk (by simp)
    clear hk
    simp only [Kd.lit] at hl
    go_enter Tryz.func51, Tryz.ntmps51
    go_wp2
    go_ret
    exact ⟨rfl, rfl⟩

set_option maxHeartbeats 400000 in
theorem isFloat_any (k : ByteArray) (w : World) :
    Calls Tryz.prog 77 #[.string k] w fun e w' => e = .returned (.bool (Kd.of k.toList).flt) ∧ w = w' := by
  cases hk : Kd.of k.toList
  case other =>
    obtain ⟨h1, h2, h3, h4, h5, h6, h7, h8, h9, h10, h11, h12, h13, h14, h15, h16, h17, h18⟩ := Kd.of_other _ hk
    clear hk
    go_enter Tryz.func77, Tryz.ntmps77
    go_wp2
    go_ret
    exact ⟨rfl, rfl⟩
  case int q =>
    have hl := Kd.of_lit _ hk (by simp)
    clear hk
    cases q <;> (simp only [Kd.lit] at hl; go_enter Tryz.func77, Tryz.ntmps77; go_wp2; go_ret; exact ⟨rfl, rfl⟩)
  all_goals
    have hl := Kd.of_lit _ hk (by simp)
    clear hk
    simp only [Kd.lit] at hl
    go_enter Tryz.func77, Tryz.ntmps77
    go_wp2
    go_ret
    exact ⟨rfl, rfl⟩

theorem run_f64bits (b : Nat) (w : World) : (callFunc 82 #[.float .f64 b]).run Tryz.prog w = .ok (.value (.int .u64 b)) w := by kernel_rfl

set_option maxHeartbeats 400000 in
theorem bits_any (b : Nat) (w : World) :
    Calls Tryz.prog 62 #[.float .f64 b] w fun e w' => e = .returned (.int .u64 (bitsV b)) ∧ w = w' := by
  have hf := run_f64bits b
  by_cases h : numB b = true
  · have hb : bitsV b = b := if_pos h
    rw [hb]
    clear hb
    have h1 : FloatKind.f64.format.order b b = some .eq := eq_of_beq h
    have h' : (FloatKind.f64.format.order b b != some .eq) = false := by rw [h1]; rfl
    clear h h1
    go_enter Tryz.func62, Tryz.ntmps62
    go_wp2
    go_ret
    exact ⟨rfl, rfl⟩
  · have hb : bitsV b = 1 := if_neg h
    rw [hb]
    clear hb
    have h1 : (FloatKind.f64.format.order b b == some .eq) = false := Bool.eq_false_iff.2 h
    have h' : (FloatKind.f64.format.order b b != some .eq) = true := by unfold bne; rw [h1]; rfl
    clear h h1
    go_enter Tryz.func62, Tryz.ntmps62
    go_wp2
    go_ret
    exact ⟨rfl, rfl⟩

/-- Nothing in a value is longer than the bound. -/
def fitsB (k s : ByteArray) : Bool := decide (k.size ≤ 2147483647) && decide (s.size ≤ 2147483647)

set_option maxHeartbeats 400000 in
theorem zzFits1_any (k : ByteArray) (n u : Int) (f : Nat) (s : ByteArray) (w : World) :
    Calls Tryz.prog 49 #[.agg #[.string k, .int .i64 n, .int .u64 u, .float .f64 f, .string s]] w fun e w' => e = .returned (.bool (fitsB k s)) ∧ Below w.heap.size w w' := by
  by_cases h1 : (k.size : Int) > 2147483647
  · have hb : fitsB k s = false := by unfold fitsB; simp; omega
    rw [hb]
    clear hb
    go_enter Tryz.func49, Tryz.ntmps49
    go_wp2
    go_ret
    exact ⟨rfl, (Below.refl _ _).alloc (Nat.le_refl _) _⟩
  · by_cases h2 : (s.size : Int) > 2147483647
    · have hb : fitsB k s = false := by unfold fitsB; simp; omega
      rw [hb]
      clear hb
      go_enter Tryz.func49, Tryz.ntmps49
      go_wp2
      go_ret
      exact ⟨rfl, (Below.refl _ _).alloc (Nat.le_refl _) _⟩
    · have hb : fitsB k s = true := by unfold fitsB; simp; omega
      rw [hb]
      clear hb
      go_enter Tryz.func49, Tryz.ntmps49
      go_wp2
      go_ret
      exact ⟨rfl, (Below.refl _ _).alloc (Nat.le_refl _) _⟩

end Go.Proofs.YtffgkocokkhahaaGreatDoor

/- Lists of values in memory; laws.zzFits2 of them. -/
namespace Go.Proofs.YtffgkocokkhahaaGreatDoor
open Go.RowKit

/-- A value's fields. -/
structure VV where
  k : ByteArray
  n : Int
  u : Int
  f : Nat
  s : ByteArray

def VV.val (x : VV) : Value := .agg #[.string x.k, .int .i64 x.n, .int .u64 x.u, .float .f64 x.f, .string x.s]

/-- A list of values lies in memory. -/
def LAt (w : World) (A : Option Addr) (l : List VV) : Prop :=
  ∀ i x, l[i]? = some x → ∃ ad, A = some ad ∧ (ad.add (i * 5)).block < w.heap.size ∧ w.cell? (ad.add (i * 5)) = some (.string x.k) ∧ w.cell? ⟨(ad.add (i * 5)).block, (ad.add (i * 5)).off + 1, none⟩ = some (.int .i64 x.n) ∧
    w.cell? ⟨(ad.add (i * 5)).block, (ad.add (i * 5)).off + 2, none⟩ = some (.int .u64 x.u) ∧ w.cell? ⟨(ad.add (i * 5)).block, (ad.add (i * 5)).off + 3, none⟩ = some (.float .f64 x.f) ∧ w.cell? ⟨(ad.add (i * 5)).block, (ad.add (i * 5)).off + 4, none⟩ = some (.string x.s)

theorem block_add (a : Addr) (j : Nat) : (a.add j).block = a.block := by unfold Addr.add; split <;> rfl

theorem LAt.below {w w' : World} {A : Option Addr} {l : List VV} (h : LAt w A l) (hb : Below w.heap.size w w') : LAt w' A l := by
  intro i x hx
  obtain ⟨ad, rfl, hlt, h0, h1, h2, h3, h4⟩ := h i x hx
  refine ⟨ad, rfl, Nat.lt_of_lt_of_le hlt hb.size, ?_, ?_, ?_, ?_, ?_⟩
  all_goals (rw [hb.cell (by exact hlt)]; assumption)

theorem up_below' {w w' w'' : World} (h : Below w.heap.size w w') (h2 : Below w'.heap.size w' w'') : Below w.heap.size w w'' := h.trans (h2.mono h.size)

def fits2B (l : List VV) : Bool := decide (l.length ≤ 2147483647) && l.all fun x => fitsB x.k x.s

theorem zzFits2_any (l : List VV) (A : Option Addr) (c : Nat) (w : World) (hl : LAt w A l) :
    Calls Tryz.prog 28 #[.slice A l.length c] w fun e w' => e = .returned (.bool (fits2B l)) ∧ Below w.heap.size w w' := by
  obtain ⟨len, hlen⟩ : ∃ len, len = l.length := ⟨_, rfl⟩
  have HL := Lib.hid hl
  have HN := Lib.hid hlen
  rw [← hlen]
  have HB : Hid (2147483647 < len → fits2B l = false) := fun h => by unfold fits2B; rw [← hlen]; simp; omega
  have HE : Hid (∀ (k : Nat) (x : VV), l[k]? = some x → fitsB x.k x.s = false → fits2B l = false) := fun k x hx hf => by
    unfold fits2B
    rw [Bool.and_eq_false_iff]
    right
    rw [List.all_eq_false]
    exact ⟨x, List.mem_of_getElem? hx, by rw [hf]; decide⟩
  have HY : Hid (len ≤ 2147483647 → (∀ j x, j < len → l[j]? = some x → fitsB x.k x.s = true) → fits2B l = true) := fun h1 h2 => by
    unfold fits2B
    rw [Bool.and_eq_true, decide_eq_true_eq, List.all_eq_true]
    refine ⟨by omega, fun x hx => ?_⟩
    obtain ⟨j, hj, rfl⟩ := List.getElem_of_mem hx
    exact h2 j _ (by omega) (List.getElem?_eq_getElem hj)
  clear hl hlen
  go_enter Tryz.func28, Tryz.ntmps28
  have HF0 := Lib.hid (fun (x : VV) (h : fitsB x.k x.s = false) w => show Calls Tryz.prog 49 #[.agg #[.string x.k, .int .i64 x.n, .int .u64 x.u, .float .f64 x.f, .string x.s]] w fun e w' => e = .returned (.bool false) ∧ Below w.heap.size w w' by rw [← h]; exact zzFits1_any x.k x.n x.u x.f x.s w)
  have HF1 := Lib.hid (fun (x : VV) (h : fitsB x.k x.s = true) w => show Calls Tryz.prog 49 #[.agg #[.string x.k, .int .i64 x.n, .int .u64 x.u, .float .f64 x.f, .string x.s]] w fun e w' => e = .returned (.bool true) ∧ Below w.heap.size w w' by rw [← h]; exact zzFits1_any x.k x.n x.u x.f x.s w)
  go_wp2
  · go_ret
    exact ⟨by rw [HB.out (by omega)]; rfl, Below.refl _ _⟩
  go_loopw [10] (fun i wr => ∃ k : Nat, k ≤ len ∧ i = .int .i64 k ∧ Below w.heap.size w wr ∧ ∀ j x, j < k → l[j]? = some x → fitsB x.k x.s = true) (fun i _ => len - (intOf i).toNat)
  case atStart => exact ⟨0, by omega, rfl, Below.refl _ _, fun _ _ h => by omega⟩
  case round =>
    obtain ⟨k, hk, rfl, hb, hall⟩ := hrel
    have HA := Lib.hid hall
    clear hall
    by_cases hlt : k < len
    · have hx : l[k]? = some (l[k]'(by rw [← HN.out]; exact hlt)) := List.getElem?_eq_getElem _
      obtain ⟨x, hx'⟩ : ∃ x, l[k]? = some x := ⟨_, hx⟩
      clear hx
      have HX := Lib.hid hx'
      obtain ⟨ad, rfl, hbl, h0, h1, h2, h3, h4⟩ := (HL.out.below hb) k x hx'
      clear hx'
      have hs := hb.size
      cases hf : fitsB x.k x.s with
      | false =>
        have HW := Lib.hid (HF0.out x hf)
        have hf' := Lib.hid hf
        clear hf
        go_wp2_with (go_at_call 49; refine (HW.out _).mono ?_; rintro e w1 ⟨rfl, hb1⟩)
        go_ret
        exact ⟨by rw [HE.out k x HX.out hf'.out]; rfl, up_below' (hb.alloc hb.size _) hb1⟩
      | true =>
        have HW := Lib.hid (HF1.out x hf)
        have hf' := Lib.hid hf
        clear hf
        go_wp2_with (go_at_call 49; refine (HW.out _).mono ?_; rintro e w1 ⟨rfl, hb1⟩)
        refine ⟨⟨k + 1, by omega, by push_cast; rfl, up_below' (hb.alloc hb.size _) hb1, fun j y hj hy => ?_⟩, by simp [intOf]; omega⟩
        rcases Nat.lt_or_ge j k with h | h
        · exact HA.out j y h hy
        · obtain rfl : j = k := by omega
          obtain rfl : y = x := Option.some.inj (hy.symm.trans HX.out)
          exact hf'.out
    · have hke : k = len := by omega
      subst hke
      go_wp2
      go_ret
      exact ⟨by rw [HY.out (by omega) HA.out]; rfl, hb⟩

end Go.Proofs.YtffgkocokkhahaaGreatDoor

/- A slice that reads as a list of cells; append onto a row of the call's own, its source known by its cells; a row of the call's own over later worlds. -/
namespace Go.Proofs.YtffgkocokkhahaaGreatDoor
open Go.RowKit

def Reads (w : World) (B size : Nat) (A : Option Addr) (n : Nat) (xs : List Value) : Prop :=
  xs.length = n * size ∧ (0 < n → ∃ ad, A = some ad ∧ ad.block < B ∧ ∀ j u, xs[j]? = some u → w.cell? (ad.add j) = some u)

theorem Reads.at_ {w : World} {B n : Nat} {A : Option Addr} {xs : List Value} {k : Nat} (h : Reads w B 1 A n xs) (hk : k < n) : ∃ ad u, A = some ad ∧ ad.block < B ∧ xs[k]? = some u ∧ w.cell? (ad.add k) = some u := by
  obtain ⟨ad, e, hb, hc⟩ := h.2 (by omega)
  have hl : k < xs.length := by have := h.1; omega
  exact ⟨ad, xs[k], e, hb, List.getElem?_eq_getElem hl, hc k _ (List.getElem?_eq_getElem hl)⟩
theorem Reads.below {w w' : World} {size n : Nat} {A : Option Addr} {xs : List Value} (h : Reads w w.heap.size size A n xs) (hb : Below w.heap.size w w') : Reads w' w'.heap.size size A n xs :=
  ⟨h.1, fun hn => by
    obtain ⟨ad, e, hlt, hc⟩ := h.2 hn
    exact ⟨ad, e, Nat.lt_of_lt_of_le hlt hb.size, fun j u hu => (hb.cell (by rw [block_add]; exact hlt)).trans (hc j u hu)⟩⟩
theorem Reads.of_own {w : World} {base size n : Nat} {A : Option Addr} {xs : List Value} {e : TypeId} {c : Nat} (h : w.ownsRow base e size (.slice A n c) n xs) : Reads w w.heap.size size A n xs := by
  refine ⟨h.1, fun hn => ?_⟩
  obtain ⟨g, cap, hv, _, hlt⟩ := h.form hn
  have hA : A = some ⟨g, 0, none⟩ := by injection hv
  subst hA
  exact ⟨_, rfl, hlt, h.cells (g := g) rfl⟩

theorem own_below {w w' : World} {base : Nat} {e : TypeId} {size : Nat} {v : Value} {n : Nat} {xs : List Value} (h : w.ownsRow base e size v n xs) (hb : Below w.heap.size w w') : w'.ownsRow base e size v n xs := by
  obtain ⟨h1, h2⟩ := h
  refine ⟨h1, ?_⟩
  rcases h2 with h2 | ⟨g, cap, cur, e1, e2, e3, e4⟩
  · exact .inl h2
  · refine .inr ⟨g, cap, cur, e1, e2, ?_, e4⟩
    have hlt : g < w.heap.size := by
      rcases Nat.lt_or_ge g w.heap.size with h' | h'
      · exact h'
      · rw [Array.getElem?_eq_none h'] at e3; cases e3
    exact (hb.block g hlt).trans e3

section
variable {P : Program} (w : World)

theorem run_append_of_nil (base : Nat) (t ty e : TypeId) (i : TypeInfo) (size : Nat) (ht : P.underlying t = some (.slice e)) (hi : P.info? e = some i)
    (v : Value) (n : Nat) (xs : List Value) (hown : w.ownsRow base e size v n xs) (c : Nat) : (Builtin.append_ #[t, t] ty #[v, .slice none 0 c]).run P w = .ok v w := by
  rcases hown.2 with ⟨rfl, rfl⟩ | ⟨g, cap, cur, rfl, _, _, hnc, _⟩
  · simp [Builtin.append_, run_underlying ht, sizeOf, typeInfo, hi, Builtin.lenOf, Builtin.firstCells]
  · simp [Builtin.append_, run_underlying ht, sizeOf, typeInfo, hi, Builtin.lenOf, Builtin.firstCells, hnc, storeCells]

theorem run_append_any (base : Nat) (t ty e : TypeId) (i : TypeInfo) (z : Value) (size bytes : Nat) (ht : P.underlying t = some (.slice e)) (hi : P.info? e = some i) (hz : i.zero = some z)
    (hsize : i.size = size) (hby : i.bytes = bytes) (hzs : z.cells.size = size) (hsz : 0 < size)
    (v : Value) (n : Nat) (xs : List Value) (hown : w.ownsRow base e size v n xs)
    (B : Nat) (A : Option Addr) (m c : Nat) (news : List Value) (hr : Reads w B size A m news) (h1 : ∀ u ∈ news, u.oneCell' = true)
    (h63 : n + m ≤ maxLen) (hbytes : (n + m) * bytes ≤ 140737488355328) (hbase : base ≤ w.heap.size) :
    ∃ v' w', (Builtin.append_ #[t, t] ty #[v, .slice A m c]).run P w = .ok v' w' ∧ w'.ownsRow base e size v' (n + m) (xs ++ news) ∧ w.grownBy w' v.ownBlock ∧
      (v'.ownBlock = v.ownBlock ∨ v'.ownBlock = some w.heap.size) := by
  rcases A with _ | ad
  · have hm : m = 0 := by
      rcases Nat.eq_zero_or_pos m with h0 | h0
      · exact h0
      · obtain ⟨ad, h, _⟩ := hr.2 h0
        cases h
    subst hm
    have hn : news = [] := List.eq_nil_of_length_eq_zero (by simpa using hr.1)
    subst hn
    exact ⟨v, w, run_append_of_nil w base t ty e i size ht hi v n xs hown c, by simpa using hown, World.grownBy.refl w _, .inl rfl⟩
  · have hcells : ∀ j u, news[j]? = some u → w.cell? (ad.add j) = some u := by
      intro j u hu
      rcases Nat.eq_zero_or_pos m with h0 | h0
      · subst h0
        have hn : news = [] := List.eq_nil_of_length_eq_zero (by simpa using hr.1)
        subst hn
        simp at hu
      · obtain ⟨ad', h, _, hc⟩ := hr.2 h0
        injection h with h
        subst h
        exact hc j u hu
    obtain ⟨v', w', hrun, h2, h3, _, h5⟩ := run_append_own_at (P := P) w base t ty e i z size bytes ht hi hz hsize hby hzs hsz v n xs hown ad m c news hr.1 hcells h1 h63 hbytes hbase
    exact ⟨v', w', hrun, h2, h3, h5⟩

theorem wp_append_any {o : Oper} {a : Act} {K : Act → World → Prop} {Q : Exit → Act → World → Prop} (s x : Operand) (t : TypeId)
    (ho : o.op = .call { callee := .builtin .append, args := #[s, x], argTypes := #[t, t] })
    (base : Nat) (e : TypeId) (i : TypeInfo) (z : Value) (size bytes : Nat) (ht : P.underlying t = some (.slice e)) (hi : P.info? e = some i) (hz : i.zero = some z)
    (hsize : i.size = size) (hby : i.bytes = bytes) (hzs : z.cells.size = size) (hsz : 0 < size)
    (v : Value) (n : Nat) (xs : List Value) (hs : a.eval s = v) (hown : w.ownsRow base e size v n xs)
    (B : Nat) (A : Option Addr) (m c : Nat) (news : List Value) (hx : a.eval x = .slice A m c) (hr : Reads w B size A m news) (h1 : ∀ u ∈ news, u.oneCell' = true)
    (h63 : n + m ≤ maxLen) (hbytes : (n + m) * bytes ≤ 140737488355328) (hbase : base ≤ w.heap.size)
    (h : ∀ v' w', w'.ownsRow base e size v' (n + m) (xs ++ news) → w.grownBy w' v.ownBlock → (v'.ownBlock = v.ownBlock ∨ v'.ownBlock = some w.heap.size) → K (a.put o.dst v') w') : o.wp P a w K Q := by
  obtain ⟨v', w', hrun, h2, h3, h4⟩ := run_append_any (P := P) w base t o.type e i z size bytes ht hi hz hsize hby hzs hsz v n xs hown B A m c news hr h1 h63 hbytes hbase
  unfold Oper.wp execOp
  simp only [ho, resolve, invoke, builtin, Sem.run_bind, Sem.run_pure, Result.andThen_ok, List.map_toArray, List.map_cons, List.map_nil, hs, hx, hrun]
  exact h v' w' h2 h3 h4

theorem wpList_append_any {ops : Array Oper} {rest : List Oper} {o : Oper} {a : Act} {Q : Exit → Act → World → Prop} (hgd : o.guard = none) (s x : Operand) (t : TypeId)
    (ho : o.op = .call { callee := .builtin .append, args := #[s, x], argTypes := #[t, t] })
    (base : Nat) (e : TypeId) (i : TypeInfo) (z : Value) (size bytes : Nat) (ht : P.underlying t = some (.slice e)) (hi : P.info? e = some i) (hz : i.zero = some z)
    (hsize : i.size = size) (hby : i.bytes = bytes) (hzs : z.cells.size = size) (hsz : 0 < size)
    (v : Value) (n : Nat) (xs : List Value) (hs : a.eval s = v) (hown : w.ownsRow base e size v n xs)
    (B : Nat) (A : Option Addr) (m c : Nat) (news : List Value) (hx : a.eval x = .slice A m c) (hr : Reads w B size A m news) (h1 : ∀ u ∈ news, u.oneCell' = true)
    (h63 : n + m ≤ maxLen) (hbytes : (n + m) * bytes ≤ 140737488355328) (hbase : base ≤ w.heap.size)
    (h : ∀ v' w', w'.ownsRow base e size v' (n + m) (xs ++ news) → w.grownBy w' v.ownBlock → (v'.ownBlock = v.ownBlock ∨ v'.ownBlock = some w.heap.size) → wpList P ops Q rest (a.put o.dst v') w') : wpList P ops Q (o :: rest) a w :=
  wpList_plain hgd fun _ hK => wp_append_any w s x t ho base e i z size bytes ht hi hz hsize hby hzs hsz v n xs hs hown B A m c news hx hr h1 h63 hbytes hbase fun v' w' h2 h3 h4 => hK _ _ (h v' w' h2 h3 h4)
end

theorem reads_new (w : World) (v : Value) (t : TypeId) : Reads (w.alloc (.cells #[v] t)) (w.heap.size + 1) 1 (some ⟨w.heap.size, 0, none⟩) 1 [v] := by
  refine ⟨rfl, fun _ => ⟨_, rfl, Nat.lt_succ_self _, fun j u hu => ?_⟩⟩
  cases j with
  | zero =>
    obtain rfl : v = u := by simpa using hu
    exact World.cell?_alloc_mark w #[v] t (0, 0) 0
  | succ j => simp at hu

end Go.Proofs.YtffgkocokkhahaaGreatDoor

/- What the conversions between float64 and float32 do in the model: exact ones; a NaN and a number too great for float32 are drawn. -/
namespace Go.Proofs.YtffgkocokkhahaaGreatDoor
open Go.RowKit

/-- What a float64 that is no number becomes as a float32 (drawn), and back. -/
def nan32 (W : World) (f : Nat) : Nat := (Question.nanConv .f32 f).cut (W.tape W.drawn (.nanConv .f32 f))
def nan64 (W : World) (f : Nat) : Nat := (Question.nanConv .f64 f).cut (W.tape W.drawn (.nanConv .f64 f))
/-- What a float64 too great for a float32 becomes (drawn). -/
def over32 (W : World) (f : Nat) : Nat := (Question.floatToFloat f).cut (W.tape W.drawn (.floatToFloat f))
/-- A float32 as a float64; how often is drawn. -/
def wide (W : World) (x : Nat) : Nat := if (Ieee.single.read x).isNaN = true then nan64 W x else Flt.up x
def wideN (x : Nat) : Nat := if (Ieee.single.read x).isNaN = true then 1 else 0

theorem nan_of_rung (f : Ieee.Format) {x : Nat} (h : f.infRung < x % f.signWeight) (h2 : f.binade ≤ f.infRung) : (f.read x).isNaN = true := by
  unfold Ieee.Format.read
  simp only
  rw [if_neg (by omega), if_neg (by omega), if_neg (by omega)]
  rfl
theorem isNaN_nan32 (W : World) (f : Nat) : (Ieee.single.read (nan32 W f)).isNaN = true := by
  refine nan_of_rung _ ?_ (by rw [Flt.s_inf, Flt.s_bin]; omega)
  rw [Flt.s_inf, Flt.s_sign]
  unfold nan32 Question.cut
  generalize W.tape W.drawn (.nanConv .f32 f) = t
  simp only [Nat.reducePow, Nat.reduceSub]
  have hp : t % 2 = 0 ∨ t % 2 = 1 := by omega
  rcases hp with h | h <;> rw [h] <;> omega
theorem isNaN_nan64 (W : World) (f : Nat) : (Ieee.double.read (nan64 W f)).isNaN = true := by
  refine nan_of_rung _ ?_ (by rw [Flt.d_inf, Flt.d_bin]; omega)
  rw [Flt.d_inf, Flt.d_sign]
  unfold nan64 Question.cut
  generalize W.tape W.drawn (.nanConv .f64 f) = t
  simp only [Nat.reducePow, Nat.reduceSub]
  have hp : t % 2 = 0 ∨ t % 2 = 1 := by omega
  rcases hp with h | h <;> rw [h] <;> omega
theorem nan32_lt (W : World) (f : Nat) : nan32 W f < 4294967296 := by
  unfold nan32 Question.cut
  generalize W.tape W.drawn (.nanConv .f32 f) = t
  simp only [Nat.reducePow, Nat.reduceSub]
  have hp : t % 2 = 0 ∨ t % 2 = 1 := by omega
  rcases hp with h | h <;> rw [h] <;> omega
theorem over32_lt (W : World) (f : Nat) : over32 W f < 4294967296 := Nat.mod_lt _ (by decide)

theorem run_nan32 (f : Nat) (h : (Ieee.double.read f).isNaN = true) (W : World) : (convert 55 161 (.float .f64 f)).run Tryz.prog W = .ok (.float .f32 (nan32 W f)) W.drew := by
  have hs : Tryz.prog.underlying 55 = some (.float .f64) := Tryz.underlying55
  have he : FloatKind.f64.decode f = Ieee.double.read f := rfl
  cases hd : Ieee.double.read f with
  | nan s t => simp [convert, run_underlying hs, run_underlying Tryz.underlying161, Conv.floatToFloat, he, hd, Question.forced, nan32]
  | infinity s => rw [hd] at h; cases h
  | number s m p => rw [hd] at h; cases h
theorem run_nan64 (f : Nat) (h : (Ieee.single.read f).isNaN = true) (W : World) : (convert 161 55 (.float .f32 f)).run Tryz.prog W = .ok (.float .f64 (nan64 W f)) W.drew := by
  have hs : Tryz.prog.underlying 161 = some (.float .f32) := Tryz.underlying161
  have he : FloatKind.f32.decode f = Ieee.single.read f := rfl
  cases hd : Ieee.single.read f with
  | nan s t => simp [convert, run_underlying hs, run_underlying Tryz.underlying55, Conv.floatToFloat, he, hd, Question.forced, nan64]
  | infinity s => rw [hd] at h; cases h
  | number s m p => rw [hd] at h; cases h
theorem run_over32 (f : Nat) (h : (Ieee.single.read (Flt.down f)).isInfinity = true) (h2 : (Ieee.double.read f).isInfinity = false) (h3 : (Ieee.double.read f).isNaN = false) (W : World) :
    (convert 55 161 (.float .f64 f)).run Tryz.prog W = .ok (.float .f32 (over32 W f)) W.drew := by
  have hs : Tryz.prog.underlying 55 = some (.float .f64) := Tryz.underlying55
  have he : FloatKind.f64.decode f = Ieee.double.read f := rfl
  cases hd : Ieee.double.read f with
  | nan s t => rw [hd] at h3; cases h3
  | infinity s => rw [hd] at h2; cases h2
  | number s m p =>
    have hi : (FloatKind.f32.decode (FloatKind.f32.encode (.number s m p))).isInfinity = true := by
      unfold Flt.down at h
      rw [hd] at h
      exact h
    simp [convert, run_underlying hs, run_underlying Tryz.underlying161, Conv.floatToFloat, he, hd, hi, Question.forced, over32]
/-- Where it is neither, the nearest one. -/
theorem run_narrow (f : Nat) (h : ((Ieee.single.read (Flt.down f)).isInfinity && !(Ieee.double.read f).isInfinity) = false) (h3 : (Ieee.double.read f).isNaN = false) (W : World) :
    (convert 55 161 (.float .f64 f)).run Tryz.prog W = .ok (.float .f32 (Flt.down f)) W := by
  refine run_convert_float_float W 55 161 .f64 .f32 f _ (by rw [Tryz.underlying55]; rfl) Tryz.underlying161 ?_
  unfold floatToFloatBits
  rw [if_neg (by decide)]
  have he : FloatKind.f64.decode f = Ieee.double.read f := rfl
  rw [he]
  unfold Flt.down at h ⊢
  cases hd : Ieee.double.read f with
  | nan s t => rw [hd] at h3; cases h3
  | infinity s => rfl
  | number s m p =>
    rw [hd] at h
    have hi : (FloatKind.f32.decode (FloatKind.f32.encode (.number s m p))).isInfinity = false := by
      have h' : ((Ieee.single.read (Ieee.single.write (.number s m p))).isInfinity && !false) = false := h
      exact (by simpa using h' : (Ieee.single.read (Ieee.single.write (.number s m p))).isInfinity = false)
    simp only [hi]
    rfl
theorem run_wide (x : Nat) (h : (Ieee.single.read x).isNaN = false) (W : World) :
    (convert 161 55 (.float .f32 x)).run Tryz.prog W = .ok (.float .f64 (Flt.up x)) W := by
  refine run_convert_float_float W 161 55 .f32 .f64 x _ (by rw [Tryz.underlying161]; rfl) Tryz.underlying55 ?_
  obtain ⟨_, _, _, hu⟩ := Flt.up_key h
  unfold floatToFloatBits
  rw [if_neg (by decide)]
  have he : FloatKind.f32.decode x = Ieee.single.read x := rfl
  rw [he]
  unfold Flt.up at hu ⊢
  cases hd : Ieee.single.read x with
  | nan s t => rw [hd] at h; cases h
  | infinity s => rfl
  | number s m p =>
    rw [hd] at hu
    have hi : (FloatKind.f64.decode (FloatKind.f64.encode (.number s m p))).isInfinity = false := hu
    simp only [hi]
    rfl
theorem run_wide_any (x : Nat) (W : World) :
    (convert 161 55 (.float .f32 x)).run Tryz.prog W = .ok (.float .f64 (wide W x)) (W.drewN (wideN x)) := by
  by_cases h : (Ieee.single.read x).isNaN = true
  · rw [run_nan64 x h, wide, wideN, if_pos h, if_pos h]
    rfl
  · rw [run_wide x (by simpa using h), wide, wideN, if_neg h, if_neg h]
    rfl

theorem numB_nan (f : Nat) : numB f = !(Ieee.double.read f).isNaN := by
  unfold numB Ieee.Format.order
  cases hd : Ieee.double.read f with
  | nan s t => rfl
  | infinity s => cases s <;> rfl
  | number s m p =>
    simp only [Ieee.Datum.order, Ieee.Datum.isNaN, Bool.not_false]
    generalize Ieee.signed s m _ = z
    have : compare z z = Ordering.eq := by simp [compare, compareOfLessAndEq]
    rw [this]
    rfl
theorem bitsV_nan {f : Nat} (h : (Ieee.double.read f).isNaN = true) : bitsV f = 1 := by
  unfold bitsV
  rw [numB_nan, h]
  rfl
theorem bitsV_num {f : Nat} (h : (Ieee.double.read f).isNaN = false) : bitsV f = f := by
  unfold bitsV
  rw [numB_nan, h]
  rfl

/-- A drawn float32 is not the float64 that was too great. -/
theorem wide_over {W : World} {x f : Nat} (hx : x < 4294967296) (h : (Ieee.single.read (Flt.down f)).isInfinity = true) (h2 : (Ieee.double.read f).isInfinity = false) (h3 : (Ieee.double.read f).isNaN = false) :
    bitsV (wide W x) ≠ bitsV f := by
  rw [bitsV_num h3]
  unfold wide
  by_cases hn : (Ieee.single.read x).isNaN = true
  · rw [if_pos hn, bitsV_nan (isNaN_nan64 _ _)]
    rintro rfl
    revert h
    decide +kernel
  · have hn' : (Ieee.single.read x).isNaN = false := by simpa using hn
    obtain ⟨_, _, k3, k4⟩ := Flt.up_key hn'
    rw [if_neg hn, bitsV_num k3]
    rintro rfl
    rw [Flt.down_up hx hn'] at h
    rw [k4, h] at h2
    cases h2

end Go.Proofs.YtffgkocokkhahaaGreatDoor

/- Values of the database as the program has them; the walk of impl.in. PRINTED BY wip/tpl/gen_in.py. -/
namespace Go.Proofs.YtffgkocokkhahaaGreatDoor
open Go.RowKit

/-- The types of integers by their kinds. -/
def kindT : IntKind → TypeId
  | .i8 => 185
  | .i16 => 186
  | .i32 => 21
  | .i64 => 2
  | .u8 => 5
  | .u16 => 187
  | .u32 => 114
  | .u64 => 54

/-- What the program has for a value. A blob lies in memory. -/
def Rep (w : World) : SV → Value → Prop
  | .null, v => v = .nilIface
  | .bool b, v => v = .iface 4 (.bool b)
  | .int k n, v => v = .iface (kindT k) (.int k n)
  | .f32 x, v => v = .iface 161 (.float .f32 x)
  | .f64 x, v => v = .iface 55 (.float .f64 x)
  | .str s, v => v = .iface 9 (.string s)
  | .blob l, v => ∃ a cap, v = .iface 188 (.slice (some a) l.length cap) ∧ a.block < w.heap.size ∧ ∀ j (hj : j < l.length), w.cell? (a.add j) = some (.int .u8 (l[j].toNat : Int))
  | .iInt n, v => v = .iface 198 (.int .i64 n)
  | .iRune n, v => v = .iface 199 (.int .i32 n)
  | .iUint n, v => v = .iface 200 (.int .u64 n)
  | .iFloat x, v => v = .iface 197 (.float .f64 x)

theorem Rep.below {w w' : World} {x : SV} {v : Value} (h : Rep w x v) (hb : Below w.heap.size w w') : Rep w' x v := by
  cases x with
  | blob l =>
    obtain ⟨a, cap, hv, hlt, hc⟩ := h
    refine ⟨a, cap, hv, Nat.lt_of_lt_of_le hlt hb.size, fun j hj => ?_⟩
    rw [hb.cell (p := a.add j) (by rw [show (a.add j).block = a.block from by unfold Addr.add; split <;> rfl]; exact hlt)]
    exact hc j hj
  | _ => exact h

/-- A value as data. -/
def toSV (kd : Kd) (n u : Int) (f : Nat) (s : ByteArray) : SV :=
  match kd with
  | .null | .other => .null
  | .bool => .bool (n != 0)
  | .int k => .int k (if k.signed = true then n else u)
  | .f32 => .f32 (Flt.down f)
  | .f64 => .f64 f
  | .str => .str s
  | .blob => .blob s.data.toList
  | .iInt => .iInt n
  | .iRune => .iRune n
  | .iUint => .iUint u
  | .iFloat => .iFloat f

/-- What is in a value fits its fields. -/
def Rng (n u : Int) (f : Nat) : Prop := -9223372036854775808 ≤ n ∧ n ≤ 9223372036854775807 ∧ 0 ≤ u ∧ u ≤ 18446744073709551615 ∧ f < 18446744073709551616


/-- y is what a value is as data; a float32 that is no number: any one that is none. -/
def SVof (kd : Kd) (n u : Int) (f : Nat) (s : ByteArray) (y : SV) : Prop :=
  if kd = .f32 ∧ numB f = false then ∃ x, y = .f32 x ∧ (Ieee.single.read x).isNaN = true ∧ x < 4294967296 else y = toSV kd n u f s

/-- The value that comes in is what the program has for it: y; of a float32 that is no number: some one that is none. -/
def InPost (kd : Kd) (n u : Int) (f : Nat) (s : ByteArray) (w : World) (e : Ending) (w' : World) : Prop :=
  ∃ v y, e = .returned v ∧ Rep w' y v ∧ Below w.heap.size w w' ∧ SVof kd n u f s y

set_option maxRecDepth 100000 in
set_option maxHeartbeats 1000000 in
theorem in_null (k : ByteArray) (hk : Kd.of k.toList = .null) (n u : Int) (f : Nat) (s : ByteArray) (w : World) :
    Calls Tryz.prog 68 #[.agg #[.string k, .int .i64 n, .int .u64 u, .float .f64 f, .string s]] w fun e w' => e = .returned (.nilIface) ∧ Below w.heap.size w w' := by
  have hl := Kd.of_lit _ hk (by simp)
  clear hk
  simp only [Kd.lit] at hl
  go_enter Tryz.func68, Tryz.ntmps68
  go_wp2_with (fail)
  go_ret
  exact ⟨rfl, (Below.refl _ _).alloc (Nat.le_refl _) _⟩

set_option maxRecDepth 100000 in
set_option maxHeartbeats 1000000 in
theorem in_bool (k : ByteArray) (hk : Kd.of k.toList = .bool) (n u : Int) (f : Nat) (s : ByteArray) (w : World) :
    Calls Tryz.prog 68 #[.agg #[.string k, .int .i64 n, .int .u64 u, .float .f64 f, .string s]] w fun e w' => e = .returned (.iface 4 (.bool (n != 0))) ∧ Below w.heap.size w w' := by
  have hl := Kd.of_lit _ hk (by simp)
  clear hk
  simp only [Kd.lit] at hl
  go_enter Tryz.func68, Tryz.ntmps68
  go_wp2_with (fail)
  go_ret
  exact ⟨rfl, (Below.refl _ _).alloc (Nat.le_refl _) _⟩

set_option maxRecDepth 100000 in
set_option maxHeartbeats 1000000 in
theorem in_i8 (k : ByteArray) (hk : Kd.of k.toList = (.int .i8)) (n u : Int) (f : Nat) (s : ByteArray) (h : IntKind.i8.wrap n = n) (w : World) :
    Calls Tryz.prog 68 #[.agg #[.string k, .int .i64 n, .int .u64 u, .float .f64 f, .string s]] w fun e w' => e = .returned (.iface 185 (.int .i8 n)) ∧ Below w.heap.size w w' := by
  have hl := Kd.of_lit _ hk (by simp)
  clear hk
  simp only [Kd.lit] at hl
  go_enter Tryz.func68, Tryz.ntmps68
  go_wp2_with (fail)
  go_ret
  exact ⟨rfl, (Below.refl _ _).alloc (Nat.le_refl _) _⟩

set_option maxRecDepth 100000 in
set_option maxHeartbeats 1000000 in
theorem in_i16 (k : ByteArray) (hk : Kd.of k.toList = (.int .i16)) (n u : Int) (f : Nat) (s : ByteArray) (h : IntKind.i16.wrap n = n) (w : World) :
    Calls Tryz.prog 68 #[.agg #[.string k, .int .i64 n, .int .u64 u, .float .f64 f, .string s]] w fun e w' => e = .returned (.iface 186 (.int .i16 n)) ∧ Below w.heap.size w w' := by
  have hl := Kd.of_lit _ hk (by simp)
  clear hk
  simp only [Kd.lit] at hl
  go_enter Tryz.func68, Tryz.ntmps68
  go_wp2_with (fail)
  go_ret
  exact ⟨rfl, (Below.refl _ _).alloc (Nat.le_refl _) _⟩

set_option maxRecDepth 100000 in
set_option maxHeartbeats 1000000 in
theorem in_i32 (k : ByteArray) (hk : Kd.of k.toList = (.int .i32)) (n u : Int) (f : Nat) (s : ByteArray) (h : IntKind.i32.wrap n = n) (w : World) :
    Calls Tryz.prog 68 #[.agg #[.string k, .int .i64 n, .int .u64 u, .float .f64 f, .string s]] w fun e w' => e = .returned (.iface 21 (.int .i32 n)) ∧ Below w.heap.size w w' := by
  have hl := Kd.of_lit _ hk (by simp)
  clear hk
  simp only [Kd.lit] at hl
  go_enter Tryz.func68, Tryz.ntmps68
  go_wp2_with (fail)
  go_ret
  exact ⟨rfl, (Below.refl _ _).alloc (Nat.le_refl _) _⟩

set_option maxRecDepth 100000 in
set_option maxHeartbeats 1000000 in
theorem in_i64 (k : ByteArray) (hk : Kd.of k.toList = (.int .i64)) (n u : Int) (f : Nat) (s : ByteArray) (w : World) :
    Calls Tryz.prog 68 #[.agg #[.string k, .int .i64 n, .int .u64 u, .float .f64 f, .string s]] w fun e w' => e = .returned (.iface 2 (.int .i64 n)) ∧ Below w.heap.size w w' := by
  have hl := Kd.of_lit _ hk (by simp)
  clear hk
  simp only [Kd.lit] at hl
  go_enter Tryz.func68, Tryz.ntmps68
  go_wp2_with (fail)
  go_ret
  exact ⟨rfl, (Below.refl _ _).alloc (Nat.le_refl _) _⟩

set_option maxRecDepth 100000 in
set_option maxHeartbeats 1000000 in
theorem in_u8 (k : ByteArray) (hk : Kd.of k.toList = (.int .u8)) (n u : Int) (f : Nat) (s : ByteArray) (h : IntKind.u8.wrap u = u) (w : World) :
    Calls Tryz.prog 68 #[.agg #[.string k, .int .i64 n, .int .u64 u, .float .f64 f, .string s]] w fun e w' => e = .returned (.iface 5 (.int .u8 u)) ∧ Below w.heap.size w w' := by
  have hl := Kd.of_lit _ hk (by simp)
  clear hk
  simp only [Kd.lit] at hl
  go_enter Tryz.func68, Tryz.ntmps68
  go_wp2_with (fail)
  go_ret
  exact ⟨rfl, (Below.refl _ _).alloc (Nat.le_refl _) _⟩

set_option maxRecDepth 100000 in
set_option maxHeartbeats 1000000 in
theorem in_u16 (k : ByteArray) (hk : Kd.of k.toList = (.int .u16)) (n u : Int) (f : Nat) (s : ByteArray) (h : IntKind.u16.wrap u = u) (w : World) :
    Calls Tryz.prog 68 #[.agg #[.string k, .int .i64 n, .int .u64 u, .float .f64 f, .string s]] w fun e w' => e = .returned (.iface 187 (.int .u16 u)) ∧ Below w.heap.size w w' := by
  have hl := Kd.of_lit _ hk (by simp)
  clear hk
  simp only [Kd.lit] at hl
  go_enter Tryz.func68, Tryz.ntmps68
  go_wp2_with (fail)
  go_ret
  exact ⟨rfl, (Below.refl _ _).alloc (Nat.le_refl _) _⟩

set_option maxRecDepth 100000 in
set_option maxHeartbeats 1000000 in
theorem in_u32 (k : ByteArray) (hk : Kd.of k.toList = (.int .u32)) (n u : Int) (f : Nat) (s : ByteArray) (h : IntKind.u32.wrap u = u) (w : World) :
    Calls Tryz.prog 68 #[.agg #[.string k, .int .i64 n, .int .u64 u, .float .f64 f, .string s]] w fun e w' => e = .returned (.iface 114 (.int .u32 u)) ∧ Below w.heap.size w w' := by
  have hl := Kd.of_lit _ hk (by simp)
  clear hk
  simp only [Kd.lit] at hl
  go_enter Tryz.func68, Tryz.ntmps68
  go_wp2_with (fail)
  go_ret
  exact ⟨rfl, (Below.refl _ _).alloc (Nat.le_refl _) _⟩

set_option maxRecDepth 100000 in
set_option maxHeartbeats 1000000 in
theorem in_u64 (k : ByteArray) (hk : Kd.of k.toList = (.int .u64)) (n u : Int) (f : Nat) (s : ByteArray) (w : World) :
    Calls Tryz.prog 68 #[.agg #[.string k, .int .i64 n, .int .u64 u, .float .f64 f, .string s]] w fun e w' => e = .returned (.iface 54 (.int .u64 u)) ∧ Below w.heap.size w w' := by
  have hl := Kd.of_lit _ hk (by simp)
  clear hk
  simp only [Kd.lit] at hl
  go_enter Tryz.func68, Tryz.ntmps68
  go_wp2_with (fail)
  go_ret
  exact ⟨rfl, (Below.refl _ _).alloc (Nat.le_refl _) _⟩

set_option maxRecDepth 100000 in
set_option maxHeartbeats 1000000 in
theorem in_f64 (k : ByteArray) (hk : Kd.of k.toList = .f64) (n u : Int) (f : Nat) (s : ByteArray) (w : World) :
    Calls Tryz.prog 68 #[.agg #[.string k, .int .i64 n, .int .u64 u, .float .f64 f, .string s]] w fun e w' => e = .returned (.iface 55 (.float .f64 f)) ∧ Below w.heap.size w w' := by
  have hl := Kd.of_lit _ hk (by simp)
  clear hk
  simp only [Kd.lit] at hl
  go_enter Tryz.func68, Tryz.ntmps68
  go_wp2_with (fail)
  go_ret
  exact ⟨rfl, (Below.refl _ _).alloc (Nat.le_refl _) _⟩

set_option maxRecDepth 100000 in
set_option maxHeartbeats 1000000 in
theorem in_str (k : ByteArray) (hk : Kd.of k.toList = .str) (n u : Int) (f : Nat) (s : ByteArray) (w : World) :
    Calls Tryz.prog 68 #[.agg #[.string k, .int .i64 n, .int .u64 u, .float .f64 f, .string s]] w fun e w' => e = .returned (.iface 9 (.string s)) ∧ Below w.heap.size w w' := by
  have hl := Kd.of_lit _ hk (by simp)
  clear hk
  simp only [Kd.lit] at hl
  go_enter Tryz.func68, Tryz.ntmps68
  go_wp2_with (fail)
  go_ret
  exact ⟨rfl, (Below.refl _ _).alloc (Nat.le_refl _) _⟩

set_option maxRecDepth 100000 in
set_option maxHeartbeats 1000000 in
theorem in_iInt (k : ByteArray) (hk : Kd.of k.toList = .iInt) (n u : Int) (f : Nat) (s : ByteArray) (w : World) :
    Calls Tryz.prog 68 #[.agg #[.string k, .int .i64 n, .int .u64 u, .float .f64 f, .string s]] w fun e w' => e = .returned (.iface 198 (.int .i64 n)) ∧ Below w.heap.size w w' := by
  have hl := Kd.of_lit _ hk (by simp)
  clear hk
  simp only [Kd.lit] at hl
  go_enter Tryz.func68, Tryz.ntmps68
  go_wp2_with go_in
  go_ret
  exact ⟨rfl, (Below.refl _ _).alloc (Nat.le_refl _) _⟩

set_option maxRecDepth 100000 in
set_option maxHeartbeats 1000000 in
theorem in_iRune (k : ByteArray) (hk : Kd.of k.toList = .iRune) (n u : Int) (f : Nat) (s : ByteArray) (h : IntKind.i32.wrap n = n) (w : World) :
    Calls Tryz.prog 68 #[.agg #[.string k, .int .i64 n, .int .u64 u, .float .f64 f, .string s]] w fun e w' => e = .returned (.iface 199 (.int .i32 n)) ∧ Below w.heap.size w w' := by
  have hl := Kd.of_lit _ hk (by simp)
  clear hk
  simp only [Kd.lit] at hl
  go_enter Tryz.func68, Tryz.ntmps68
  go_wp2_with go_in
  go_ret
  exact ⟨rfl, (Below.refl _ _).alloc (Nat.le_refl _) _⟩

set_option maxRecDepth 100000 in
set_option maxHeartbeats 1000000 in
theorem in_iUint (k : ByteArray) (hk : Kd.of k.toList = .iUint) (n u : Int) (f : Nat) (s : ByteArray) (w : World) :
    Calls Tryz.prog 68 #[.agg #[.string k, .int .i64 n, .int .u64 u, .float .f64 f, .string s]] w fun e w' => e = .returned (.iface 200 (.int .u64 u)) ∧ Below w.heap.size w w' := by
  have hl := Kd.of_lit _ hk (by simp)
  clear hk
  simp only [Kd.lit] at hl
  go_enter Tryz.func68, Tryz.ntmps68
  go_wp2_with go_in
  go_ret
  exact ⟨rfl, (Below.refl _ _).alloc (Nat.le_refl _) _⟩

set_option maxRecDepth 100000 in
set_option maxHeartbeats 1000000 in
theorem in_iFloat (k : ByteArray) (hk : Kd.of k.toList = .iFloat) (n u : Int) (f : Nat) (s : ByteArray) (w : World) :
    Calls Tryz.prog 68 #[.agg #[.string k, .int .i64 n, .int .u64 u, .float .f64 f, .string s]] w fun e w' => e = .returned (.iface 197 (.float .f64 f)) ∧ Below w.heap.size w w' := by
  have hl := Kd.of_lit _ hk (by simp)
  clear hk
  simp only [Kd.lit] at hl
  go_enter Tryz.func68, Tryz.ntmps68
  go_wp2_with go_in
  go_ret
  exact ⟨rfl, (Below.refl _ _).alloc (Nat.le_refl _) _⟩

set_option maxRecDepth 100000 in
set_option maxHeartbeats 1000000 in
theorem in_f32 (k : ByteArray) (hk : Kd.of k.toList = .f32) (n u : Int) (f : Nat) (s : ByteArray) (h : ((Ieee.single.read (Flt.down f)).isInfinity && !(Ieee.double.read f).isInfinity) = false) (h3 : (Ieee.double.read f).isNaN = false) (w : World) :
    Calls Tryz.prog 68 #[.agg #[.string k, .int .i64 n, .int .u64 u, .float .f64 f, .string s]] w fun e w' => e = .returned (.iface 161 (.float .f32 (Flt.down f))) ∧ Below w.heap.size w w' := by
  have hl := Kd.of_lit _ hk (by simp)
  clear hk
  simp only [Kd.lit] at hl
  have c1 := fun W => run_narrow f h h3 W
  clear h h3
  go_enter Tryz.func68, Tryz.ntmps68
  go_wp2
  go_ret
  exact ⟨rfl, (Below.refl _ _).alloc (Nat.le_refl _) _⟩

set_option maxRecDepth 100000 in
set_option maxHeartbeats 1000000 in
theorem in_f32_nan (k : ByteArray) (hk : Kd.of k.toList = .f32) (n u : Int) (f : Nat) (s : ByteArray) (h3 : (Ieee.double.read f).isNaN = true) (w : World) :
    Calls Tryz.prog 68 #[.agg #[.string k, .int .i64 n, .int .u64 u, .float .f64 f, .string s]] w fun e w' => ∃ W, e = .returned (.iface 161 (.float .f32 (nan32 W f))) ∧ Below w.heap.size w w' := by
  have hl := Kd.of_lit _ hk (by simp)
  clear hk
  simp only [Kd.lit] at hl
  have c1 := fun W => run_nan32 f h3 W
  clear h3
  go_enter Tryz.func68, Tryz.ntmps68
  go_wp2
  go_ret
  exact ⟨_, rfl, ((Below.refl _ _).alloc (Nat.le_refl _) _).drew⟩

theorem cell_second (w : World) (o : Obj) (C : Array Value) (t : TypeId) (fr : Nat × Nat) (j : Nat) : ((w.alloc o).alloc (.cells C t fr)).cell? ⟨w.heap.size + 1, j, none⟩ = C[j]? := by
  have h := World.cell?_alloc_mark (w.alloc o) C t fr j
  rwa [show (w.alloc o).heap.size = w.heap.size + 1 from by simp] at h

def BlobPost (s : ByteArray) (w : World) (e : Ending) (w' : World) : Prop :=
  ∃ b cap, e = .returned (.iface 188 (.slice (some ⟨b, 0, none⟩) s.size cap)) ∧ w.heap.size ≤ b ∧ b < w'.heap.size ∧ Below w.heap.size w w' ∧ ∀ j, w'.cell? ⟨b, j, none⟩ = (bytesRow s cap)[j]?

set_option maxRecDepth 100000 in
set_option maxHeartbeats 1000000 in
theorem in_blob (k : ByteArray) (hk : Kd.of k.toList = .blob) (n u : Int) (f : Nat) (s : ByteArray) (w : World) :
    Calls Tryz.prog 68 #[.agg #[.string k, .int .i64 n, .int .u64 u, .float .f64 f, .string s]] w (BlobPost s w) := by
  have hl := Kd.of_lit _ hk (by simp)
  clear hk
  simp only [Kd.lit] at hl
  have c1 := fun W => run_bytes_of_string W 9 188 5 s Tryz.underlying9 Tryz.underlying188 Tryz.underlying5
  go_enter Tryz.func68, Tryz.ntmps68
  go_wp2
  go_ret
  refine ⟨_, _, rfl, ?_, ?_, ?_, ?_⟩
  · simp
  · simp
  · exact (((Below.refl _ _).alloc (Nat.le_refl _) _).alloc (by simp) _).drew
  · intro j
    rw [World.cell?_drew]
    exact cell_second w _ _ _ _ j

theorem wrap_i {k : IntKind} {n : Int} (h1 : k.min ≤ n) (h2 : n ≤ k.max) : k.wrap n = n := by
  cases k <;> simp only [IntKind.min, IntKind.max, IntKind.wrap, IntKind.bits, IntKind.signed, if_true, if_false, Bool.true_and, Bool.false_and, Bool.false_eq_true, decide_eq_true_eq, ge_iff_le, Nat.reduceSub, Int.reducePow] at * <;> (try split) <;> omega

/-- The value that comes in is what the program has for it. -/
theorem in_any (k : ByteArray) (n u : Int) (f : Nat) (s : ByteArray) (hr : Rng n u f) (hv : validB (Kd.of k.toList) n u f s = true) (w : World) :
    Calls Tryz.prog 68 #[.agg #[.string k, .int .i64 n, .int .u64 u, .float .f64 f, .string s]] w (InPost (Kd.of k.toList) n u f s w) := by
  obtain ⟨r1, r2, r3, r4, r5⟩ := hr
  cases hk : Kd.of k.toList with
  | other => rw [hk] at hv; simp [validB] at hv
  | null => exact (in_null k hk n u f s w).mono fun e w' ⟨he, hb⟩ => ⟨_, .null, he, rfl, hb, by simp [SVof, toSV]⟩
  | bool => exact (in_bool k hk n u f s w).mono fun e w' ⟨he, hb⟩ => ⟨_, .bool (n != 0), he, rfl, hb, by simp [SVof, toSV]⟩
  | int q =>
    rw [hk] at hv
    cases q <;> simp only [validB, Bool.and_eq_true, beq_iff_eq] at hv
    case i8 => exact (in_i8 k hk n u f s (wrap_i (by simp [IntKind.min, IntKind.signed, IntKind.bits]; omega) (by simp [IntKind.max, IntKind.signed, IntKind.bits]; omega)) w).mono fun e w' ⟨he, hb⟩ => ⟨_, .int .i8 n, he, rfl, hb, by simp [SVof, toSV, IntKind.signed]⟩
    case i16 => exact (in_i16 k hk n u f s (wrap_i (by simp [IntKind.min, IntKind.signed, IntKind.bits]; omega) (by simp [IntKind.max, IntKind.signed, IntKind.bits]; omega)) w).mono fun e w' ⟨he, hb⟩ => ⟨_, .int .i16 n, he, rfl, hb, by simp [SVof, toSV, IntKind.signed]⟩
    case i32 => exact (in_i32 k hk n u f s (wrap_i (by simp [IntKind.min, IntKind.signed, IntKind.bits]; omega) (by simp [IntKind.max, IntKind.signed, IntKind.bits]; omega)) w).mono fun e w' ⟨he, hb⟩ => ⟨_, .int .i32 n, he, rfl, hb, by simp [SVof, toSV, IntKind.signed]⟩
    case i64 => exact (in_i64 k hk n u f s w).mono fun e w' ⟨he, hb⟩ => ⟨_, .int .i64 n, he, rfl, hb, by simp [SVof, toSV, IntKind.signed]⟩
    case u8 => exact (in_u8 k hk n u f s (wrap_i (by simp [IntKind.min, IntKind.signed]; omega) (by simp [IntKind.max, IntKind.signed, IntKind.bits]; omega)) w).mono fun e w' ⟨he, hb⟩ => ⟨_, .int .u8 u, he, rfl, hb, by simp [SVof, toSV, IntKind.signed]⟩
    case u16 => exact (in_u16 k hk n u f s (wrap_i (by simp [IntKind.min, IntKind.signed]; omega) (by simp [IntKind.max, IntKind.signed, IntKind.bits]; omega)) w).mono fun e w' ⟨he, hb⟩ => ⟨_, .int .u16 u, he, rfl, hb, by simp [SVof, toSV, IntKind.signed]⟩
    case u32 => exact (in_u32 k hk n u f s (wrap_i (by simp [IntKind.min, IntKind.signed]; omega) (by simp [IntKind.max, IntKind.signed, IntKind.bits]; omega)) w).mono fun e w' ⟨he, hb⟩ => ⟨_, .int .u32 u, he, rfl, hb, by simp [SVof, toSV, IntKind.signed]⟩
    case u64 => exact (in_u64 k hk n u f s w).mono fun e w' ⟨he, hb⟩ => ⟨_, .int .u64 u, he, rfl, hb, by simp [SVof, toSV, IntKind.signed]⟩
  | f32 =>
    rw [hk] at hv
    simp only [validB, Bool.and_eq_true] at hv
    obtain ⟨_, h4⟩ := hv
    unfold single64 at h4
    cases hn : (Ieee.double.read f).isNaN with
    | true =>
      refine (in_f32_nan k hk n u f s hn w).mono fun e w' ⟨W, he, hb⟩ => ⟨_, .f32 (nan32 W f), he, rfl, hb, ?_⟩
      unfold SVof
      rw [if_pos ⟨rfl, by rw [numB_nan, hn]; rfl⟩]
      exact ⟨_, rfl, isNaN_nan32 _ _, nan32_lt _ _⟩
    | false =>
      rw [numB_nan, hn] at h4
      simp only [Bool.not_false, Bool.not_true, Bool.false_or, Bool.and_eq_true, Bool.not_eq_true'] at h4
      refine (in_f32 k hk n u f s h4.2 hn w).mono fun e w' ⟨he, hb⟩ => ⟨_, .f32 (Flt.down f), he, rfl, hb, ?_⟩
      unfold SVof
      rw [if_neg (fun h => by have := h.2; rw [numB_nan, hn] at this; cases this)]
      rfl
  | f64 => exact (in_f64 k hk n u f s w).mono fun e w' ⟨he, hb⟩ => ⟨_, .f64 f, he, rfl, hb, by simp [SVof, toSV]⟩
  | str => exact (in_str k hk n u f s w).mono fun e w' ⟨he, hb⟩ => ⟨_, .str s, he, rfl, hb, by simp [SVof, toSV]⟩
  | blob =>
    refine (in_blob k hk n u f s w).mono fun e w' ⟨b, cap, he, _, hlt, hb, hc⟩ => ⟨_, .blob s.data.toList, he, ?_, hb, by simp [SVof, toSV]⟩
    refine ⟨⟨b, 0, none⟩, cap, rfl, hlt, fun j hj => ?_⟩
    have ha : Addr.add ⟨b, 0, none⟩ j = ⟨b, j, none⟩ := by
      unfold Addr.add
      split
      · rename_i h0; subst h0; rfl
      · simp
    rw [ha, hc j]
    unfold bytesRow
    have hj' : j < s.data.size := by simpa using hj
    rw [Array.getElem?_append_left (by simpa using hj')]
    simp
    exact ⟨s.data[j], Array.getElem?_eq_getElem hj', rfl⟩
  | iInt => exact (in_iInt k hk n u f s w).mono fun e w' ⟨he, hb⟩ => ⟨_, .iInt n, he, rfl, hb, by simp [SVof, toSV]⟩
  | iRune =>
    rw [hk] at hv
    simp only [validB, Bool.and_eq_true, beq_iff_eq] at hv
    exact (in_iRune k hk n u f s (wrap_i (by simp [IntKind.min, IntKind.signed, IntKind.bits]; omega) (by simp [IntKind.max, IntKind.signed, IntKind.bits]; omega)) w).mono fun e w' ⟨he, hb⟩ => ⟨_, .iRune n, he, rfl, hb, by simp [SVof, toSV]⟩
  | iUint => exact (in_iUint k hk n u f s w).mono fun e w' ⟨he, hb⟩ => ⟨_, .iUint u, he, rfl, hb, by simp [SVof, toSV]⟩
  | iFloat => exact (in_iFloat k hk n u f s w).mono fun e w' ⟨he, hb⟩ => ⟨_, .iFloat f, he, rfl, hb, by simp [SVof, toSV]⟩

end Go.Proofs.YtffgkocokkhahaaGreatDoor

/- impl.ins: a list of values brought into the database. -/
namespace Go.Proofs.YtffgkocokkhahaaGreatDoor
open Go.RowKit

/-- y is what a value is as data. -/
def VV.is (x : VV) (y : SV) : Prop := SVof (Kd.of x.k.toList) x.n x.u x.f x.s y
def VV.good (x : VV) : Prop := Rng x.n x.u x.f ∧ validB (Kd.of x.k.toList) x.n x.u x.f x.s = true

/-- Where a value's memory begins. -/
def From (B : Nat) (v : Value) : Prop := ∀ t a n c, v = .iface t (.slice (some a) n c) → B ≤ a.block

def In2Post (x : VV) (w : World) (e : Ending) (w' : World) : Prop :=
  ∃ v y, e = .returned v ∧ Rep w' y v ∧ Below w.heap.size w w' ∧ x.is y ∧ From w.heap.size v

theorem in2_any (x : VV) (hg : x.good) (w : World) : Calls Tryz.prog 68 #[.agg #[.string x.k, .int .i64 x.n, .int .u64 x.u, .float .f64 x.f, .string x.s]] w (In2Post x w) := by
  by_cases hk : Kd.of x.k.toList = .blob
  · refine (in_blob x.k hk x.n x.u x.f x.s w).mono fun e w' ⟨b, cap, he, hlo, hlt, hb, hc⟩ => ⟨_, .blob x.s.data.toList, he, ?_, hb, by simp [VV.is, hk, SVof, toSV], ?_⟩
    · refine ⟨⟨b, 0, none⟩, cap, rfl, hlt, fun j hj => ?_⟩
      have ha : Addr.add ⟨b, 0, none⟩ j = ⟨b, j, none⟩ := by
        unfold Addr.add
        split
        · rename_i h0; subst h0; rfl
        · simp
      rw [ha, hc j]
      unfold bytesRow
      have hj' : j < x.s.data.size := by simpa using hj
      rw [Array.getElem?_append_left (by simpa using hj')]
      simp
      exact ⟨x.s.data[j], Array.getElem?_eq_getElem hj', rfl⟩
    · intro t a n c h
      injection h with _ h
      injection h with h
      injection h with h
      subst h
      exact hlo
  · refine (in_any x.k x.n x.u x.f x.s hg.1 hg.2 w).mono fun e w' ⟨v, y, he, hrep, hb, hsv⟩ => ⟨v, y, he, hrep, hb, hsv, ?_⟩
    intro t a n c h
    subst h
    exfalso
    have hy : ∃ l, y = .blob l := by
      cases y with
      | blob l => exact ⟨l, rfl⟩
      | _ => exact absurd hrep (by simp [Rep])
    obtain ⟨l, rfl⟩ := hy
    unfold SVof at hsv
    split at hsv
    · obtain ⟨z, h, _⟩ := hsv; cases h
    · revert hk hsv
      cases Kd.of x.k.toList <;> simp [toSV]

theorem rep_lt {w : World} {y : SV} {v : Value} (h : Rep w y v) {t : TypeId} {a : Addr} {n c : Nat} (hv : v = .iface t (.slice (some a) n c)) : a.block < w.heap.size := by
  subst hv
  cases y with
  | blob l =>
    obtain ⟨b, cap, he, hlt, _⟩ := h
    injection he with _ he
    injection he with he
    injection he with he
    subst he
    exact hlt
  | _ => exact absurd h (by simp [Rep])

theorem Rep.grown {w w' : World} {y : SV} {v : Value} {row : Option Nat} (h : Rep w y v) (hg : w.grownBy w' row) (hap : ∀ t a n c, v = .iface t (.slice (some a) n c) → some a.block ≠ row) : Rep w' y v := by
  cases y with
  | blob l =>
    obtain ⟨a, cap, hv, hlt, hc⟩ := h
    have hne := hap _ _ _ _ hv
    refine ⟨a, cap, hv, Nat.lt_of_lt_of_le hlt hg.size, fun j hj => ?_⟩
    exact (World.cell?_of_block (a := a.add j) (by rw [block_add]; exact hg.block _ hlt hne)).trans (hc j hj)
  | _ => exact h

/-- The first k values as the program has them. -/
def RepK (w : World) (l : List VV) (k : Nat) (vs : List Value) : Prop :=
  vs.length = k ∧ ∀ (j : Nat) (x : VV) (v : Value), l[j]? = some x → vs[j]? = some v → ∃ y, x.is y ∧ Rep w y v
def Apart (vs : List Value) (row : Option Nat) : Prop := ∀ (j : Nat) (v : Value), vs[j]? = some v → ∀ (t : TypeId) (a : Addr) (n c : Nat), v = .iface t (.slice (some a) n c) → some a.block ≠ row

theorem RepK.below {w w' : World} {l : List VV} {k : Nat} {vs : List Value} (h : RepK w l k vs) (hb : Below w.heap.size w w') : RepK w' l k vs :=
  ⟨h.1, fun j x v hx hv => by obtain ⟨y, h1, h2⟩ := h.2 j x v hx hv; exact ⟨y, h1, h2.below hb⟩⟩

theorem ins_step {B E : Nat} {w wr w1 w2 : World} {l : List VV} {k : Nat} {vs : List Value} {r v v' : Value} {x : VV} {y : SV} {o o2 : Obj}
    (hown : wr.ownsRow B E 1 r k vs) (hB : B ≤ wr.heap.size) (hrep : RepK wr l k vs) (hap : Apart vs r.ownBlock) (hl : k < l.length) (hx : l[k]? = some x)
    (hb1 : Below (wr.alloc o).heap.size (wr.alloc o) w1) (hrv : Rep w1 y v) (hsv : x.is y) (hnew : From (wr.alloc o).heap.size v)
    (hg2 : (w1.alloc o2).grownBy w2 r.ownBlock) (hat : v'.ownBlock = r.ownBlock ∨ v'.ownBlock = some (w1.alloc o2).heap.size) (hbw : Below B w wr) :
    RepK w2 l (k + 1) (vs ++ [v]) ∧ Apart (vs ++ [v]) v'.ownBlock ∧ Below B w w2 := by
  have hbA : Below wr.heap.size wr (w1.alloc o2) := ((((Below.refl _ _).alloc (Nat.le_refl _) o).trans (hb1.mono (by simp))).alloc (by have := hb1.size; simp at this; omega) o2)
  have hown0 : ∀ g, r.ownBlock = some g → B ≤ g ∧ g < wr.heap.size := hown.lt
  have hvlt : ∀ t a n c, v = .iface t (.slice (some a) n c) → some a.block ≠ r.ownBlock := by
    intro t a n c hv he
    have h1 := hnew t a n c hv
    have h2 := (hown0 _ he.symm).2
    simp at h1
    omega
  have hold : ∀ (j : Nat) (x : VV) (v : Value), l[j]? = some x → vs[j]? = some v → ∃ y, x.is y ∧ Rep (w1.alloc o2) y v := fun j x v hx hv => by
    obtain ⟨y, h1, h2⟩ := hrep.2 j x v hx hv
    exact ⟨y, h1, h2.below hbA⟩
  have hnewR : Rep (w1.alloc o2) y v := hrv.below ((Below.refl _ _).alloc (Nat.le_refl _) _)
  refine ⟨⟨by rw [List.length_append, hrep.1]; rfl, fun j z u hz hu => ?_⟩, fun j u hu t a n c hv => ?_, ?_⟩
  · rcases Nat.lt_or_ge j k with hj | hj
    · rw [List.getElem?_append_left (by rw [hrep.1]; exact hj)] at hu
      obtain ⟨y', h1, h2⟩ := hold j z u hz hu
      exact ⟨y', h1, h2.grown hg2 (hap j u hu)⟩
    · rw [List.getElem?_append_right (by rw [hrep.1]; exact hj), hrep.1] at hu
      have hjk : j = k := by
        rcases Nat.eq_or_lt_of_le hj with h | h
        · exact h.symm
        · rw [List.getElem?_eq_none (by simp; omega)] at hu; cases hu
      subst hjk
      rw [Nat.sub_self] at hu
      obtain rfl : u = v := (Option.some.inj hu).symm
      obtain rfl : z = x := Option.some.inj (hz.symm.trans hx)
      exact ⟨y, hsv, hnewR.grown hg2 hvlt⟩
  · have hlt : a.block < (w1.alloc o2).heap.size ∧ some a.block ≠ r.ownBlock := by
      rcases Nat.lt_or_ge j k with hj | hj
      · rw [List.getElem?_append_left (by rw [hrep.1]; exact hj)] at hu
        obtain ⟨y', _, h2⟩ := hold j l[j] u (List.getElem?_eq_getElem (by omega)) hu
        exact ⟨rep_lt h2 hv, hap j u hu t a n c hv⟩
      · rw [List.getElem?_append_right (by rw [hrep.1]; exact hj), hrep.1] at hu
        have hjk : j - k = 0 := by
          rcases Nat.eq_zero_or_pos (j - k) with h | h
          · exact h
          · rw [List.getElem?_eq_none (by simp; omega)] at hu; cases hu
        rw [hjk] at hu
        obtain rfl : u = v := (Option.some.inj hu).symm
        exact ⟨rep_lt hnewR hv, hvlt t a n c hv⟩
    rcases hat with h | h
    · rw [h]; exact hlt.2
    · rw [h]
      intro he
      have := Option.some.inj he
      omega
  · exact (hbw.trans (hbA.mono hB)).grown hg2 (by have := hbA.size; omega) (fun g hg => (hown0 g hg).1)

def InsPost (l : List VV) (w : World) (e : Ending) (w' : World) : Prop :=
  ∃ A c vs, e = .returned (.slice A l.length c) ∧ Reads w' w'.heap.size 1 A l.length vs ∧ RepK w' l l.length vs ∧ Below w.heap.size w w'

theorem info_iface : (Tryz.prog.info? 20).map (fun i => (i.zero, i.size, i.bytes)) = some (some .nilIface, 1, 16) := by kernel_rfl

theorem own_form {w : World} {base : Nat} {e : TypeId} {size : Nat} {v : Value} {n : Nat} {xs : List Value} (h : w.ownsRow base e size v n xs) : ∃ A c, v = .slice A n c := by
  rcases h.2 with ⟨rfl, rfl⟩ | ⟨g, cap, cur, rfl, _⟩
  · exact ⟨_, _, rfl⟩
  · exact ⟨_, _, rfl⟩

theorem rep_form {w : World} {y : SV} {v : Value} (h : Rep w y v) : v = .nilIface ∨ ∃ t u, v = .iface t u := by
  cases y with
  | blob l => obtain ⟨a, cap, rfl, _⟩ := h; exact .inr ⟨_, _, rfl⟩
  | null => exact .inl h
  | _ => exact .inr ⟨_, _, h⟩

theorem rep_one {w : World} {y : SV} {v : Value} (h : Rep w y v) : v.oneCell' = true := by
  cases y with
  | blob l => obtain ⟨a, cap, rfl, _⟩ := h; rfl
  | _ => (have h' : v = _ := h); rw [h']; rfl

end Go.Proofs.YtffgkocokkhahaaGreatDoor

/- The walk of impl.ins. -/
namespace Go.Proofs.YtffgkocokkhahaaGreatDoor
open Go.RowKit

set_option maxHeartbeats 1000000 in
theorem ins_any (l : List VV) (A : Option Addr) (c : Nat) (w : World) (hl : LAt w A l) (hgood : ∀ (j : Nat) (x : VV), l[j]? = some x → x.good) (hm : l.length ≤ 2147483647) :
    Calls Tryz.prog 39 #[.slice A l.length c] w (InsPost l w) := by
  obtain ⟨i0, hi, hz0, hz1, hz2⟩ := info_parts info_iface
  obtain ⟨len, hlen⟩ : ∃ len, len = l.length := ⟨_, rfl⟩
  have HL := Lib.hid hl
  have HN := Lib.hid hlen
  have HI := Lib.hid (fun (x : VV) (hg : x.good) w => in2_any x hg w)
  have HG := Lib.hid hgood
  unfold InsPost
  rw [← hlen] at hm ⊢
  clear hl hlen hgood
  go_enter Tryz.func39, Tryz.ntmps39
  go_wp2
  go_loopw [3, 8] (fun r i wr => ∃ (k : Nat) (vs : List Value), k ≤ len ∧ i = .int .i64 k ∧ wr.ownsRow w.heap.size 20 1 r k vs ∧ RepK wr l k vs ∧ Apart vs r.ownBlock ∧ Below w.heap.size w wr) (fun _ i _ => len - (intOf i).toNat)
  case atStart => exact ⟨0, [], by omega, rfl, World.ownsRow_nil _ _ _ _, ⟨rfl, fun j x v _ h => by simp at h⟩, fun j v h => by simp at h, Below.refl _ _⟩
  case round =>
    obtain ⟨k, vs, hk, rfl, hown, hrep, hap, hb⟩ := hrel
    have HO := Lib.hid hown
    have HR := Lib.hid hrep
    have HP := Lib.hid hap
    have HB := Lib.hid hb
    have hs := hb.size
    clear hown hrep hap
    by_cases hlt : k < len
    · have hlt2 : k < l.length := by rw [← HN.out]; exact hlt
      obtain ⟨x, hx'⟩ : ∃ x, l[k]? = some x := ⟨_, List.getElem?_eq_getElem hlt2⟩
      have HX := Lib.hid hx'
      have HX2 := Lib.hid (HI.out x (HG.out k x hx'))
      have HT := Lib.hid hlt2
      obtain ⟨ad, rfl, hbl, h0, h1, h2, h3, h4⟩ := (HL.out.below hb) k x hx'
      clear hx' hlt2 hb
      go_wp2_with (first
        | (go_at_call 68; refine (HX2.out _).mono ?_; rintro e w1 ⟨v, y, rfl, hrv, hb1, hsv, hnew⟩; have HV := Lib.hid hrv; have HS := Lib.hid hsv; have HW := Lib.hid hnew; have HB1 := Lib.hid hb1; clear hsv hnew hb1; rcases rep_form hrv with rfl | ⟨tv, uv, rfl⟩ <;> clear hrv)
        | (at_builtin
           refine wpList_append_any _ rfl (.tmp 12) (.tmp 15) _ rfl w.heap.size 20 i0 _ 1 16 Tryz.underlying87 hi hz0 hz1 hz2 rfl (by omega) u3 k vs rfl
             ((own_below (HO.out.alloc _) HB1.out).alloc _) (w1.heap.size + 1) (some ⟨w1.heap.size, 0, none⟩) 1 1 [_] rfl (reads_new _ _ _) (fun u hu => by simp at hu; subst hu; exact rep_one HV.out) (by simp only [maxLen]; omega) (by omega) (by have := HB1.out.size; simp at this ⊢; omega) ?_
           intro v2 w2 hown2 hg2 hat2
           have HO2 := Lib.hid hown2; have HG2 := Lib.hid hg2; have HA2 := Lib.hid hat2; clear hown2 hg2 hat2))
      all_goals
        have R := ins_step HO.out HB.out.size HR.out HP.out HT.out HX.out HB1.out HV.out HS.out HW.out HG2.out HA2.out HB.out
        exact ⟨⟨k + 1, _, by omega, by push_cast; rfl, HO2.out, R.1, R.2.1, R.2.2⟩, by simp [intOf]; omega⟩
    · have hke : k = len := by omega
      subst hke
      obtain ⟨A', c', rfl⟩ := own_form HO.out
      go_wp2
      go_ret
      exact ⟨A', c', vs, rfl, Reads.of_own HO.out, HR.out, HB.out⟩

end Go.Proofs.YtffgkocokkhahaaGreatDoor
