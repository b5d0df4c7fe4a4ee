/-
  Plain lemmas on the floats of Ieee: a common scale for both formats, what is read back exactly, float32 as float64 and back. Nothing of Go here.
-/
import Ieee.Arith
namespace Go.Proofs.YtffgkocokkhahaaGreatDoor.Flt
open Ieee

theorem signed_scale (s : Bool) (m a c : Nat) : signed s m (a + c) = signed s m a * 2 ^ c := by
  unfold signed
  simp only [Nat.shiftLeft_eq, Nat.pow_add]
  split <;> push_cast <;> simp [Int.neg_mul, Int.mul_assoc]

theorem compare_scale (x y : Int) {k : Int} (hk : 0 < k) : compare (x * k) (y * k) = compare x y := by
  simp only [compare, compareOfLessAndEq]
  have h1 : x * k < y * k ↔ x < y := ⟨fun h => Int.lt_of_mul_lt_mul_right h (Int.le_of_lt hk), fun h => Int.mul_lt_mul_of_pos_right h hk⟩
  have h2 : x * k = y * k ↔ x = y := ⟨fun h => Int.eq_of_mul_eq_mul_right (Int.ne_of_gt hk) h, fun h => by rw [h]⟩
  simp only [h1, h2]

/-- A number beyond all that a format has, on the common scale. -/
def big : Int := ((2 ^ 4000 : Nat) : Int)

theorem big_pos : 0 < big := (Int.ofNat_lt (n := 0)).2 (Nat.two_pow_pos 4000)

/-- What a datum stands for on the scale of 2^-1074. -/
def key : Datum → Option Int
  | .nan .. => none
  | .infinity s => some (if s then -big else big)
  | .number s m p => some (signed s m (p + 1074).toNat)

def fits : Datum → Prop
  | .number _ m p => m < 2 ^ 64 ∧ -1074 ≤ p ∧ p ≤ 2000
  | _ => True

theorem signed_bound (s : Bool) (m a : Nat) (hm : m < 2 ^ 64) (ha : a ≤ 3074) : -big < signed s m a ∧ signed s m a < big := by
  have h1 : m <<< a < 2 ^ 4000 := by
    rw [Nat.shiftLeft_eq]
    calc m * 2 ^ a < 2 ^ 64 * 2 ^ a := Nat.mul_lt_mul_of_pos_right hm (Nat.two_pow_pos _)
      _ = 2 ^ (64 + a) := (Nat.pow_add ..).symm
      _ ≤ 2 ^ 4000 := Nat.pow_le_pow_right (by decide) (by omega)
  have h2 : ((m <<< a : Nat) : Int) < big := by
    exact Int.ofNat_lt.2 h1
  have h0 : (0 : Int) ≤ ((m <<< a : Nat) : Int) := Int.natCast_nonneg _
  unfold signed
  generalize ((m <<< a : Nat) : Int) = z at *
  generalize big = B at *
  split <;> omega

theorem order_key {d e : Datum} (hd : fits d) (he : fits e) : d.order e = (key d).bind fun x => (key e).map fun y => compare x y := by
  cases d with
  | nan => cases e <;> rfl
  | infinity s =>
    cases e with
    | nan => rfl
    | infinity t => cases s <;> cases t <;> decide +kernel
    | number t n j =>
      obtain ⟨h1, h2, h3⟩ := he
      have hb := signed_bound t n (j + 1074).toNat h1 (by omega)
      simp only [Datum.order, key, Option.bind_some, Option.map_some]
      generalize signed t n (j + 1074).toNat = z at *
      generalize big = B at *
      cases s <;> simp only [compare, compareOfLessAndEq, if_true, if_false, Bool.false_eq_true]
      · rw [if_neg (by omega), if_neg (by omega)]
      · rw [if_pos (by omega)]
  | number s m i =>
    obtain ⟨g1, g2, g3⟩ := hd
    cases e with
    | nan => rfl
    | infinity t =>
      have hb := signed_bound s m (i + 1074).toNat g1 (by omega)
      simp only [Datum.order, key, Option.bind_some, Option.map_some]
      generalize signed s m (i + 1074).toNat = z at *
      generalize big = B at *
      cases t <;> simp only [compare, compareOfLessAndEq, if_true, if_false, Bool.false_eq_true]
      · rw [if_pos (by omega)]
      · rw [if_neg (by omega), if_neg (by omega)]
    | number t n j =>
      obtain ⟨h1, h2, h3⟩ := he
      simp only [Datum.order, key, Option.bind_some, Option.map_some]
      have e1 : (i + 1074).toNat = (i - min i j).toNat + (min i j + 1074).toNat := by omega
      have e2 : (j + 1074).toNat = (j - min i j).toNat + (min i j + 1074).toNat := by omega
      rw [e1, e2, signed_scale, signed_scale, compare_scale _ _ (Int.pow_pos (by decide))]


theorem fits_double (w : Nat) : fits (double.read w) := by
  have e1 : double.binade = 4503599627370496 := by decide +kernel
  have e2 : double.leastPlace = -1074 := by decide +kernel
  have e3 : double.infRung = 2047 * 4503599627370496 := by decide +kernel
  unfold Format.read
  simp only [e1, e2, e3]
  generalize w % double.signWeight = r
  split
  · exact ⟨by omega, by omega, by omega⟩
  · split
    · refine ⟨by omega, by omega, by omega⟩
    · split <;> trivial

theorem fits_single (w : Nat) : fits (single.read w) := by
  have e1 : single.binade = 8388608 := by decide +kernel
  have e2 : single.leastPlace = -149 := by decide +kernel
  have e3 : single.infRung = 255 * 8388608 := by decide +kernel
  unfold Format.read
  simp only [e1, e2, e3]
  generalize w % single.signWeight = r
  split
  · exact ⟨by omega, by omega, by omega⟩
  · split
    · refine ⟨by omega, by omega, by omega⟩
    · split <;> trivial

/-- The number of a double; 'none': it is none. -/
def key64 (w : Nat) : Option Int := key (double.read w)
def key32 (w : Nat) : Option Int := key (single.read w)

theorem order64 (x y : Nat) : double.order x y = (key64 x).bind fun a => (key64 y).map fun b => compare a b := order_key (fits_double x) (fits_double y)
theorem order32 (x y : Nat) : single.order x y = (key32 x).bind fun a => (key32 y).map fun b => compare a b := order_key (fits_single x) (fits_single y)

theorem signed_eq (s : Bool) {m a m' a' : Nat} (h : m * 2 ^ a = m' * 2 ^ a') : signed s m a = signed s m' a' := by
  unfold signed
  simp only [Nat.shiftLeft_eq, h]

theorem mul_add_mod_lt {a b c : Nat} (h : c < b) : (a * b + c) % b = c := by
  rw [Nat.mul_comm, Nat.mul_add_mod, Nat.mod_eq_of_lt h]
theorem mul_add_div_lt {a b c : Nat} (hb : 0 < b) (h : c < b) : (a * b + c) / b = a := by
  rw [Nat.mul_comm, Nat.mul_add_div hb, Nat.div_eq_of_lt h, Nat.add_zero]

/-- The value of a rung, in units of the least place. -/
def rungVal (B r : Nat) : Nat := if r < B then r else (B + r % B) * 2 ^ (r / B - 1)

theorem rungVal_mk {B n k : Nat} (hB : 0 < B) (h1 : k ≤ 2 * B) (h2 : n = 0 ∨ B ≤ k) : rungVal B (n * B + k) = k * 2 ^ n := by
  by_cases hk : k < B
  · obtain rfl : n = 0 := by omega
    simp [rungVal, hk]
  · by_cases hk2 : k = 2 * B
    · subst hk2
      have e : n * B + 2 * B = (n + 2) * B := by rw [Nat.add_mul]
      have hge : ¬ (n + 2) * B < B := by
        have : 1 * B ≤ (n + 2) * B := Nat.mul_le_mul_right _ (by omega)
        omega
      rw [e, rungVal, if_neg hge, Nat.mul_mod_left, Nat.mul_div_cancel _ hB]
      simp only [Nat.add_zero]
      rw [show n + 2 - 1 = n + 1 from rfl, Nat.pow_succ]
      rw [Nat.mul_comm 2 B, Nat.mul_assoc, Nat.mul_comm (2 ^ n) 2]
    · have e : n * B + k = (n + 1) * B + (k - B) := by rw [Nat.add_mul]; omega
      have hlt : k - B < B := by omega
      have hge : ¬ (n + 1) * B + (k - B) < B := by
        have : 1 * B ≤ (n + 1) * B := Nat.mul_le_mul_right _ (by omega)
        omega
      rw [e, rungVal, if_neg hge, mul_add_mod_lt hlt, mul_add_div_lt hB hlt]
      rw [show B + (k - B) = k from by omega, Nat.add_sub_cancel]


theorem cut_zero (neg : Bool) (n : Nat) : Toward.even.cut neg n 0 = n := by
  simp [Toward.cut, Nat.mod_one]

theorem log2_spec {n : Nat} (h : n ≠ 0) : 2 ^ n.log2 ≤ n ∧ n < 2 ^ (n.log2 + 1) := ⟨Nat.log2_self_le h, Nat.lt_log2_self⟩

theorem cut_le (neg : Bool) (n d : Nat) : Toward.even.cut neg n d ≤ n / 2 ^ min d (n.log2 + 2) + 1 := by
  unfold Toward.cut
  simp only [Nat.shiftLeft_eq, Nat.one_mul]
  have : ∀ b : Bool, b.toNat ≤ 1 := fun b => by cases b <;> decide
  exact Nat.add_le_add_left (this _) _

theorem cut_ge (neg : Bool) (n d : Nat) : n / 2 ^ min d (n.log2 + 2) ≤ Toward.even.cut neg n d := by
  unfold Toward.cut
  simp only [Nat.shiftLeft_eq, Nat.one_mul]
  exact Nat.le_add_right _ _

theorem cut_exact (neg : Bool) {n d : Nat} (hn : n ≠ 0) (h : 2 ^ d ∣ n) : Toward.even.cut neg n d * 2 ^ d = n := by
  obtain ⟨c, rfl⟩ := h
  have hc : c ≠ 0 := by rintro rfl; exact hn (by simp)
  have hd : d ≤ (2 ^ d * c).log2 := (Nat.le_log2 hn).2 (Nat.le_mul_of_pos_right _ (Nat.pos_of_ne_zero hc))
  have hm : min d ((2 ^ d * c).log2 + 2) = d := by omega
  unfold Toward.cut
  simp only [Nat.shiftLeft_eq, Nat.one_mul, hm]
  have h2 : 0 < 2 ^ d := Nat.two_pow_pos _
  rw [Nat.mul_div_cancel_left _ h2, Nat.mul_mod_right]
  have e1 : (decide (2 ^ d < 2 * 0) || 2 ^ d == 2 * 0 && c % 2 == 1) = false := by
    simp
  rw [e1]
  simp [Nat.mul_comm]

/-- The parts of the nearest word. -/
theorem nearest_parts (f : Format) (neg : Bool) {mag : Nat} (place : Int) (h : mag ≠ 0) :
    ∃ n kept : Nat, f.nearest neg mag place = f.word neg (min (n * f.binade + kept) f.infRung) ∧ kept ≤ 2 * f.binade ∧ (n = 0 ∨ f.binade ≤ kept) ∧
      (n : Int) + f.leastPlace = max (place + mag.log2 - f.fractionBits) f.leastPlace ∧
      (-1074 ≤ place → -1074 ≤ f.leastPlace → 2 ^ (n + f.leastPlace - place).toNat ∣ mag → kept * 2 ^ (n + f.leastPlace + 1074).toNat = mag * 2 ^ (place + 1074).toNat) := by
  obtain ⟨last, hlast⟩ : ∃ last : Int, last = max (place + mag.log2 - f.fractionBits) f.leastPlace := ⟨_, rfl⟩
  obtain ⟨kept, hkept⟩ : ∃ kept : Nat, kept = Toward.even.cut neg (mag <<< (place - last).toNat) (last - place).toNat := ⟨_, rfl⟩
  have hn : ((last - f.leastPlace).toNat : Int) + f.leastPlace = last := by omega
  have hlog := log2_spec h
  refine ⟨(last - f.leastPlace).toNat, kept, ?_, ?_, ?_, by rw [hn]; exact hlast, ?_⟩
  · unfold Format.nearest
    rw [if_neg h]
    simp only [← hlast, ← hkept]
  · -- kept is at most two binades
    unfold Format.binade at *
    rcases Int.le_total last place with hle | hle
    · have e0 : (last - place).toNat = 0 := by omega
      rw [e0, cut_zero, Nat.shiftLeft_eq] at hkept
      rw [hkept]
      have : mag * 2 ^ (place - last).toNat < 2 ^ (mag.log2 + 1) * 2 ^ (place - last).toNat := Nat.mul_lt_mul_of_pos_right hlog.2 (Nat.two_pow_pos _)
      have h2 : 2 ^ (mag.log2 + 1) * 2 ^ (place - last).toNat ≤ 2 ^ (f.fractionBits + 1) := by
        rw [← Nat.pow_add]
        exact Nat.pow_le_pow_right (by decide) (by omega)
      have h3 : 2 ^ (f.fractionBits + 1) = 2 ^ f.fractionBits * 2 := Nat.pow_succ ..
      omega
    · have e0 : (place - last).toNat = 0 := by omega
      rw [e0, Nat.shiftLeft_zero] at hkept
      have hc := cut_le neg mag (last - place).toNat
      rw [← hkept] at hc
      have hq : mag / 2 ^ min (last - place).toNat (mag.log2 + 2) < 2 ^ (f.fractionBits + 1) := by
        rw [Nat.div_lt_iff_lt_mul (Nat.two_pow_pos _), ← Nat.pow_add]
        exact Nat.lt_of_lt_of_le hlog.2 (Nat.pow_le_pow_right (by decide) (by omega))
      rw [Nat.pow_succ] at hq
      omega
  · by_cases hz : (last - f.leastPlace).toNat = 0
    · exact .inl hz
    · refine .inr ?_
      have hl2 : last = place + mag.log2 - f.fractionBits := by omega
      unfold Format.binade
      rcases Int.le_total last place with hle | hle
      · have e0 : (last - place).toNat = 0 := by omega
        rw [e0, cut_zero, Nat.shiftLeft_eq] at hkept
        rw [hkept]
        have : 2 ^ mag.log2 * 2 ^ (place - last).toNat ≤ mag * 2 ^ (place - last).toNat := Nat.mul_le_mul_right _ hlog.1
        rw [← Nat.pow_add] at this
        rwa [show mag.log2 + (place - last).toNat = f.fractionBits from by omega] at this
      · have e0 : (place - last).toNat = 0 := by omega
        rw [e0, Nat.shiftLeft_zero] at hkept
        have hc := cut_ge neg mag (last - place).toNat
        rw [← hkept] at hc
        refine Nat.le_trans ?_ hc
        rw [Nat.le_div_iff_mul_le (Nat.two_pow_pos _), ← Nat.pow_add]
        exact Nat.le_trans (Nat.pow_le_pow_right (by decide) (by omega)) hlog.1
  · intro hp hlp hd
    rw [hn] at hd ⊢
    rcases Int.le_total last place with hle | hle
    · have e0 : (last - place).toNat = 0 := by omega
      rw [e0, cut_zero, Nat.shiftLeft_eq] at hkept
      rw [hkept, Nat.mul_assoc, ← Nat.pow_add]
      congr 2
      omega
    · have e0 : (place - last).toNat = 0 := by omega
      rw [e0, Nat.shiftLeft_zero] at hkept
      have hx := cut_exact neg h hd
      rw [← hkept] at hx
      rw [show (last + 1074).toNat = (last - place).toNat + (place + 1074).toNat from by omega, Nat.pow_add, ← Nat.mul_assoc, hx]


theorem word_split (f : Format) (neg : Bool) {r : Nat} (h : r < f.signWeight) : (f.word neg r / f.signWeight % 2 == 1) = neg ∧ f.word neg r % f.signWeight = r := by
  have hpos : 0 < f.signWeight := Nat.two_pow_pos _
  unfold Format.word
  cases neg
  · simp only [Bool.false_eq_true, if_false]
    rw [Nat.div_eq_of_lt h, Nat.mod_eq_of_lt h]
    exact ⟨rfl, rfl⟩
  · simp only [if_true]
    rw [Nat.add_mod_left, Nat.mod_eq_of_lt h, Nat.add_div_left _ hpos, Nat.div_eq_of_lt h]
    exact ⟨rfl, rfl⟩

theorem infRung_lt (f : Format) : f.infRung < f.signWeight := by
  have h : 0 < 2 ^ f.exponentBits := Nat.two_pow_pos _
  have h2 : 0 < f.binade := Nat.two_pow_pos _
  unfold Format.infRung Format.signWeight
  rw [Nat.pow_add, Nat.sub_mul]
  have : 1 * f.binade ≤ 2 ^ f.exponentBits * f.binade := Nat.mul_le_mul_right _ h
  unfold Format.binade at *
  omega

/-- Reading a word of a finite rung. -/
theorem key_word (f : Format) (neg : Bool) {r : Nat} (h : r < f.infRung) (hlp : -1074 ≤ f.leastPlace) :
    key (f.read (f.word neg r)) = some (signed neg (rungVal f.binade r) (f.leastPlace + 1074).toNat) ∧ (f.read (f.word neg r)).neg = neg ∧ (f.read (f.word neg r)).isNaN = false ∧ (f.read (f.word neg r)).isInfinity = false := by
  have hi := infRung_lt f
  obtain ⟨h1, h2⟩ := word_split f neg (Nat.lt_trans h hi)
  unfold Format.read
  simp only [h1, h2]
  unfold rungVal
  by_cases hb : r < f.binade
  · rw [if_pos hb, if_pos hb]
    exact ⟨rfl, rfl, rfl, rfl⟩
  · rw [if_neg hb, if_neg hb, if_pos h]
    refine ⟨?_, rfl, rfl, rfl⟩
    unfold key
    refine congrArg some (signed_eq neg ?_)
    rw [Nat.mul_assoc, ← Nat.pow_add]
    congr 2
    omega

/-- What is exact is read back. -/
theorem key_nearest (f : Format) (neg : Bool) (mag : Nat) (place : Int) (hp : -1074 ≤ place) (hlp : -1074 ≤ f.leastPlace)
    (hd : 2 ^ (max (place + mag.log2 - f.fractionBits) f.leastPlace - place).toNat ∣ mag) (h0 : 0 < f.infRung)
    (hr : place + mag.log2 - f.fractionBits < f.infRung / f.binade - 2 + f.leastPlace) (hlow : 2 < f.infRung / f.binade) :
    key (f.read (f.nearest neg mag place)) = some (signed neg mag (place + 1074).toNat) ∧ (f.read (f.nearest neg mag place)).neg = neg ∧ (f.read (f.nearest neg mag place)).isInfinity = false := by
  by_cases hm : mag = 0
  · subst hm
    unfold Format.nearest
    rw [if_pos rfl]
    obtain ⟨k1, k2, _, k4⟩ := key_word f neg h0 hlp
    rw [k1]
    refine ⟨congrArg some (signed_eq neg ?_), k2, k4⟩
    have : rungVal f.binade 0 = 0 := by
      have : 0 < f.binade := Nat.two_pow_pos _
      simp [rungVal, this]
    rw [this, Nat.zero_mul, Nat.zero_mul]
  · obtain ⟨n, kept, hn, hk1, hk2, hl, hx⟩ := nearest_parts f neg place hm
    have hB : 0 < f.binade := Nat.two_pow_pos _
    have hq : n + 2 < f.infRung / f.binade := by omega
    have hlt : n * f.binade + kept < f.infRung := by
      have : (n + 3) * f.binade ≤ f.infRung := Nat.le_trans (Nat.mul_le_mul_right _ hq) (Nat.div_mul_le_self _ _)
      rw [Nat.add_mul] at this
      omega
    rw [hn, Nat.min_eq_left (Nat.le_of_lt hlt)]
    obtain ⟨k1, k2, _, k4⟩ := key_word f neg hlt hlp
    rw [k1]
    refine ⟨congrArg some (signed_eq neg ?_), k2, k4⟩
    rw [rungVal_mk hB hk1 hk2]
    have := hx hp hlp (by rw [hl]; exact hd)
    rw [← this, Nat.mul_assoc, ← Nat.pow_add]
    congr 2
    omega


theorem rung_parts {B r : Nat} (hB : 0 < B) : ∃ q K : Nat, r = q * B + K ∧ K < 2 * B ∧ (q = 0 ∨ B ≤ K) ∧ rungVal B r = K * 2 ^ q := by
  by_cases h : r < B
  · exact ⟨0, r, by omega, by omega, .inl rfl, by simp [rungVal, h]⟩
  · have hm : r % B < B := Nat.mod_lt _ hB
    have hd := Nat.div_add_mod r B
    have h1 : 1 ≤ r / B := (Nat.le_div_iff_mul_le hB).2 (by omega)
    obtain ⟨q, hq⟩ : ∃ q, r / B = q + 1 := ⟨r / B - 1, by omega⟩
    refine ⟨q, B + r % B, ?_, by omega, .inr (by omega), by rw [rungVal, if_neg h, hq, Nat.add_sub_cancel]⟩
    rw [hq, Nat.mul_add, Nat.mul_comm B q] at hd
    omega

theorem log2_mul_pow {n a : Nat} (h : n ≠ 0) : (n * 2 ^ a).log2 = n.log2 + a := by
  rw [Nat.log2_eq_iff (Nat.mul_ne_zero h (Nat.ne_of_gt (Nat.two_pow_pos _)))]
  have := log2_spec h
  rw [Nat.pow_add, Nat.add_right_comm, Nat.pow_add _ (n.log2 + 1)]
  exact ⟨Nat.mul_le_mul_right _ this.1, Nat.mul_lt_mul_of_pos_right this.2 (Nat.two_pow_pos _)⟩

/-- A number that a rung stands for is written as that rung. -/
theorem nearest_of_value (f : Format) (neg : Bool) {r mag : Nat} {place : Int} (hr : r < f.infRung) (hp : -1074 ≤ place) (hlp : -1074 ≤ f.leastPlace)
    (hv : mag * 2 ^ (place + 1074).toNat = rungVal f.binade r * 2 ^ (f.leastPlace + 1074).toNat) : f.nearest neg mag place = f.word neg r := by
  have hB : 0 < f.binade := Nat.two_pow_pos _
  obtain ⟨q, K, hrq, hK, hq, hval⟩ := rung_parts (r := r) hB
  rw [hval, Nat.mul_assoc, ← Nat.pow_add] at hv
  by_cases hm : mag = 0
  · subst hm
    rw [Nat.zero_mul] at hv
    have hK0 : K = 0 := by
      rcases Nat.mul_eq_zero.1 hv.symm with h | h
      · exact h
      · exact absurd h (Nat.ne_of_gt (Nat.two_pow_pos _))
    have : q = 0 := by omega
    subst hK0 this
    have hr0 : r = 0 := by omega
    unfold Format.nearest
    rw [if_pos rfl, hr0]
  · have hK0 : K ≠ 0 := by
      rintro rfl
      rw [Nat.zero_mul] at hv
      rcases Nat.mul_eq_zero.1 hv with h | h
      · exact hm h
      · exact absurd h (Nat.ne_of_gt (Nat.two_pow_pos _))
    have hlg := congrArg Nat.log2 hv
    rw [log2_mul_pow hm, log2_mul_pow hK0] at hlg
    have hKl : K.log2 ≤ f.fractionBits := by
      have : K.log2 < f.fractionBits + 1 := (Nat.log2_lt hK0).2 (by unfold Format.binade at hK; rw [Nat.pow_succ]; omega)
      omega
    have hKg : q = 0 ∨ K.log2 = f.fractionBits := by
      rcases hq with h | h
      · exact .inl h
      · exact .inr (Nat.le_antisymm hKl ((Nat.le_log2 hK0).2 h))
    obtain ⟨n, kept, hn, hk1, hk2, hl, hx⟩ := nearest_parts f neg place hm
    have hnq : n = q := by omega
    subst hnq
    have hdv : 2 ^ (n + f.leastPlace - place).toNat ∣ mag := by
      rcases Int.le_total (n + f.leastPlace) place with h | h
      · rw [show (n + f.leastPlace - place).toNat = 0 from by omega]
        exact ⟨mag, by simp⟩
      · refine ⟨K, ?_⟩
        have h2 : 0 < 2 ^ (place + 1074).toNat := Nat.two_pow_pos _
        refine Nat.eq_of_mul_eq_mul_right h2 ?_
        rw [hv, Nat.mul_comm (2 ^ _) K, Nat.mul_assoc, ← Nat.pow_add]
        congr 2
        omega
    have hkK : kept = K := by
      have h2 : 0 < 2 ^ (n + f.leastPlace + 1074).toNat := Nat.two_pow_pos _
      refine Nat.eq_of_mul_eq_mul_right h2 ?_
      rw [hx hp hlp hdv, hv]
      congr 2
      omega
    rw [hn, hkK, ← hrq, Nat.min_eq_left (Nat.le_of_lt hr)]

theorem signed_inj {s : Bool} {m a m' a' : Nat} (h : signed s m a = signed s m' a') : m * 2 ^ a = m' * 2 ^ a' := by
  unfold signed at h
  simp only [Nat.shiftLeft_eq] at h
  cases s <;> simp only [Bool.false_eq_true, if_false, if_true] at h <;> omega

/-- A word's sign and rung. -/
theorem word_of (f : Format) {x : Nat} (hx : x < 2 * f.signWeight) : x = f.word (x / f.signWeight % 2 == 1) (x % f.signWeight) := by
  have hpos : 0 < f.signWeight := Nat.two_pow_pos _
  have hd := Nat.div_add_mod x f.signWeight
  have hlt : x / f.signWeight < 2 := (Nat.div_lt_iff_lt_mul hpos).2 hx
  unfold Format.word
  have h01 : x / f.signWeight = 0 ∨ x / f.signWeight = 1 := by
    generalize x / f.signWeight = d at hlt
    omega
  rcases h01 with h | h
  · rw [h] at hd ⊢
    simp at hd ⊢
    exact hd.symm
  · rw [h] at hd ⊢
    simp at hd ⊢
    exact hd.symm

/-- What reading gives. -/
theorem read_cases (f : Format) (x : Nat) : (x % f.signWeight < f.infRung ∧ ∃ m p, f.read x = .number (x / f.signWeight % 2 == 1) m p ∧ f.leastPlace ≤ p ∧ m * 2 ^ (p - f.leastPlace).toNat = rungVal f.binade (x % f.signWeight) ∧
      m < 2 * f.binade ∧ p < f.infRung / f.binade + f.leastPlace) ∨
    (x % f.signWeight = f.infRung ∧ f.binade ≤ f.infRung ∧ f.read x = .infinity (x / f.signWeight % 2 == 1)) ∨ (f.read x).isNaN = true ∨ f.infRung < f.binade := by
  have hB : 0 < f.binade := Nat.two_pow_pos _
  by_cases hsmall : f.infRung < f.binade
  · exact .inr (.inr (.inr hsmall))
  have hq1 : 1 ≤ f.infRung / f.binade := (Nat.le_div_iff_mul_le hB).2 (by omega)
  unfold Format.read
  simp only
  by_cases h1 : x % f.signWeight < f.binade
  · rw [if_pos h1]
    refine .inl ⟨by omega, _, _, rfl, by omega, ?_, by omega, by omega⟩
    rw [rungVal, if_pos h1, Int.sub_self]
    simp
  · rw [if_neg h1]
    by_cases h2 : x % f.signWeight < f.infRung
    · rw [if_pos h2]
      have h3 : x % f.signWeight / f.binade ≤ f.infRung / f.binade := Nat.div_le_div_right (Nat.le_of_lt h2)
      have h4 : x % f.signWeight % f.binade < f.binade := Nat.mod_lt _ hB
      refine .inl ⟨h2, _, _, rfl, by omega, ?_, by omega, by omega⟩
      rw [rungVal, if_neg h1]
      congr 2
      omega
    · rw [if_neg h2]
      by_cases h3 : x % f.signWeight = f.infRung
      · rw [if_pos h3]
        exact .inr (.inl ⟨h3, by omega, rfl⟩)
      · rw [if_neg h3]
        exact .inr (.inr (.inl rfl))


/-! ### A float32 as a float64, and back -/

def up (x : Nat) : Nat := double.write (single.read x)
def down (F : Nat) : Nat := single.write (double.read F)

theorem s_inf : single.infRung = 255 * 8388608 := by decide +kernel
theorem s_bin : single.binade = 8388608 := by decide +kernel
theorem s_sign : single.signWeight = 2147483648 := by decide +kernel
theorem s_lp : single.leastPlace = -149 := by decide +kernel
theorem d_inf : double.infRung = 2047 * 4503599627370496 := by decide +kernel
theorem d_bin : double.binade = 4503599627370496 := by decide +kernel
theorem d_sign : double.signWeight = 9223372036854775808 := by decide +kernel
theorem d_lp : double.leastPlace = -1074 := by decide +kernel
theorem d_frac : double.fractionBits = 52 := rfl
theorem s_frac : single.fractionBits = 23 := rfl

theorem read_inf_d (s : Bool) : double.read (double.word s double.infRung) = .infinity s := by cases s <;> decide +kernel
theorem read_inf_s (s : Bool) : single.read (single.word s single.infRung) = .infinity s := by cases s <;> decide +kernel

theorem log2_lt_of {m k : Nat} (h : m < 2 ^ (k + 1)) : m.log2 ≤ k := by
  by_cases h0 : m = 0
  · subst h0; simp
  · have := (Nat.log2_lt h0).2 h
    omega

theorem up_number {s : Bool} {m : Nat} {p : Int} (hm : m < 2 ^ 53) (h1 : -1074 ≤ p) (h2 : p ≤ 900) :
    key (double.read (double.nearest s m p)) = some (signed s m (p + 1074).toNat) ∧ (double.read (double.nearest s m p)).neg = s ∧ (double.read (double.nearest s m p)).isInfinity = false := by
  have hl : m.log2 ≤ 52 := log2_lt_of hm
  refine key_nearest double s m p h1 (by rw [d_lp]; omega) ?_ (by rw [d_inf]; omega) ?_ ?_
  · rw [show (max (p + m.log2 - double.fractionBits) double.leastPlace - p).toNat = 0 from by rw [d_lp, d_frac]; omega]
    exact ⟨m, by simp⟩
  · rw [d_inf, d_bin, d_lp, d_frac]; omega
  · rw [d_inf, d_bin]; omega

theorem not_nan_of_key {d : Datum} {k : Int} (h : key d = some k) : d.isNaN = false := by cases d <;> first | rfl | cases h

theorem up_key {x : Nat} (hn : (single.read x).isNaN = false) : key64 (up x) = key32 x ∧ (double.read (up x)).neg = (single.read x).neg ∧ (double.read (up x)).isNaN = false ∧ (double.read (up x)).isInfinity = (single.read x).isInfinity := by
  rcases read_cases single x with ⟨hr, m, p, hx, hp, hv, hm, hq⟩ | ⟨_, _, hx⟩ | h | h
  · rw [s_bin] at hm
    rw [s_lp] at hp
    rw [s_inf, s_bin, s_lp] at hq
    unfold key64 key32 up
    rw [hx]
    obtain ⟨h1, h2, h3⟩ := up_number (s := x / single.signWeight % 2 == 1) (m := m) (p := p) (by omega) (by omega) (by omega)
    exact ⟨h1, h2, not_nan_of_key h1, h3⟩
  · unfold key64 key32 up
    rw [hx]
    simp only [Format.write]
    rw [read_inf_d]
    exact ⟨rfl, rfl, rfl, rfl⟩
  · rw [h] at hn; cases hn
  · rw [s_inf, s_bin] at h; omega

theorem down_up {x : Nat} (hx : x < 4294967296) (hn : (single.read x).isNaN = false) : down (up x) = x := by
  have hw := word_of single (x := x) (by rw [s_sign]; omega)
  obtain ⟨hk, hs, hnn, _⟩ := up_key hn
  rcases read_cases single x with ⟨hr, m, p, hxr, hp, hv, hm, hq⟩ | ⟨he, _, hxr⟩ | h | h
  · rw [s_lp] at hp
    unfold key64 key32 at hk
    rw [hxr] at hk hs
    unfold down
    rcases read_cases double (up x) with ⟨_, m', p', hxr', hp', _, _, _⟩ | ⟨_, _, hxr'⟩ | h' | h'
    · rw [d_lp] at hp'
      rw [hxr'] at hk hs ⊢
      replace hs : (up x / double.signWeight % 2 == 1) = (x / single.signWeight % 2 == 1) := hs
      rw [hs] at hk ⊢
      simp only [key, Option.some.injEq] at hk
      have hk2 := signed_inj hk
      simp only [Format.write]
      rw [nearest_of_value single _ hr hp' (by rw [s_lp]; omega) ?_]
      · exact hw.symm
      · rw [hk2, ← hv, Nat.mul_assoc, ← Nat.pow_add, s_lp]
        congr 2
        omega
    · rw [hxr'] at hk
      rw [s_bin] at hm
      rw [s_inf, s_bin, s_lp] at hq
      have hb := signed_bound (x / single.signWeight % 2 == 1) m (p + 1074).toNat (by omega) (by omega)
      simp only [key, Option.some.injEq] at hk
      rw [← hk] at hb
      generalize hbig : big = B at *
      have hpos : 0 < B := by rw [← hbig]; exact big_pos
      split at hb <;> omega
    · rw [h'] at hnn; cases hnn
    · rw [d_inf, d_bin] at h'; omega
  · unfold down up
    rw [hxr]
    simp only [Format.write]
    rw [read_inf_d]
    rw [← he]
    exact hw.symm
  · rw [h] at hn; cases hn
  · rw [s_inf, s_bin] at h; omega

end Go.Proofs.YtffgkocokkhahaaGreatDoor.Flt
