/-
  Plain lemmas on floats: an integer up to 2^24 in size is a float of each format exactly, and is read back. Nothing of Go's memory here.
-/
import Derived.Test.YtiijcmdfbgoafaaDoorFlt
import GoSem.Core.Float
namespace Go.Proofs.YtiijcmdfbgoafaaDoor.Flt
open Ieee

theorem cut_zero_exact (neg : Bool) (N j : Nat) : Toward.zero.cut neg (N * 2 ^ j) j = N := by
  unfold Toward.cut
  simp only [Nat.shiftLeft_eq, Nat.one_mul, Bool.toNat_false, Nat.add_zero]
  by_cases hN : N = 0
  · subst hN; simp
  · have hm : N * 2 ^ j ≠ 0 := Nat.mul_ne_zero hN (Nat.ne_of_gt (Nat.two_pow_pos _))
    have hd : j ≤ (N * 2 ^ j).log2 := (Nat.le_log2 hm).2 (Nat.le_mul_of_pos_left _ (Nat.pos_of_ne_zero hN))
    rw [show min j ((N * 2 ^ j).log2 + 2) = j from by omega]
    exact Nat.mul_div_cancel _ (Nat.two_pow_pos _)

theorem signed_natAbs {s : Bool} {m a N : Nat} {n : Int} {K : Nat} (hN : N = n.natAbs) (h : signed s m a = n * ((2 ^ K : Nat) : Int)) : m * 2 ^ a = N * 2 ^ K := by
  subst hN
  unfold signed at h
  rw [Nat.shiftLeft_eq] at h
  have h2 : (n * ((2 ^ K : Nat) : Int)).natAbs = n.natAbs * 2 ^ K := by rw [Int.natAbs_mul, Int.natAbs_natCast]
  rw [← h2, ← h]
  split <;> simp only [Int.natAbs_neg, Int.natAbs_natCast]

/-- A datum that stands for an integer is cut to it. -/
theorem toInt_of_key (K : Nat) {s : Bool} {m : Nat} {p n : Int} (hp : -(K : Int) ≤ p) (h : signed s m (p + K).toNat = n * ((2 ^ K : Nat) : Int)) : (Datum.number s m p).toInt .zero = some n := by
  have hX := signed_natAbs rfl h
  show some (signed s (Toward.zero.cut s (m <<< p.toNat) (-p).toNat) 0) = some n
  have hc : Toward.zero.cut s (m <<< p.toNat) (-p).toNat * 2 ^ K = m * 2 ^ (p + K).toNat := by
    rw [Nat.shiftLeft_eq]
    by_cases h0 : 0 ≤ p
    · rw [show (-p).toNat = 0 from by omega]
      have := cut_zero_exact s (m * 2 ^ p.toNat) 0
      rw [Nat.pow_zero, Nat.mul_one] at this
      rw [this, Nat.mul_assoc, ← Nat.pow_add]
      congr 2
      omega
    · rw [show p.toNat = 0 from by omega, Nat.pow_zero, Nat.mul_one]
      have e : (p + K).toNat + (-p).toNat = K := by omega
      have hm : m = n.natAbs * 2 ^ (-p).toNat := by
        refine Nat.eq_of_mul_eq_mul_right (Nat.two_pow_pos (p + K).toNat) ?_
        rw [Nat.mul_assoc, ← Nat.pow_add, show (-p).toNat + (p + K).toNat = K from by omega]
        exact hX
      rw [hX]
      conv => lhs; rw [hm]
      rw [cut_zero_exact]
  have h1 := signed_scale s (Toward.zero.cut s (m <<< p.toNat) (-p).toNat) 0 K
  rw [Nat.zero_add, signed_eq s hc, h] at h1
  have hpos : (0 : Int) < ((2 ^ K : Nat) : Int) := Int.ofNat_lt.2 (Nat.two_pow_pos _)
  push_cast at h1 hpos
  exact congrArg some (Int.eq_of_mul_eq_mul_right (Int.ne_of_gt hpos) h1).symm

theorem signed_self (n : Int) (K : Nat) : signed (decide (n < 0)) n.natAbs K = n * ((2 ^ K : Nat) : Int) := by
  unfold signed
  rw [Nat.shiftLeft_eq]
  push_cast
  by_cases h : n < 0
  · rw [if_pos (by simpa using h), show ((n.natAbs : Nat) : Int) = -n from by omega, Int.neg_mul, Int.neg_neg]
  · rw [if_neg (by simpa using h), show ((n.natAbs : Nat) : Int) = n from by omega]

theorem key_near_d {n : Int} (h : n.natAbs ≤ 2 ^ 24) : key64 (FloatKind.f64.nearest n) = some (n * ((2 ^ 1074 : Nat) : Int)) := by
  rw [← signed_self n 1074]
  exact (up_number (s := decide (n < 0)) (m := n.natAbs) (p := 0) (Nat.lt_of_le_of_lt h (by decide)) (by omega) (by omega)).1

theorem key_near_s {n : Int} (h : n.natAbs ≤ 2 ^ 24) : key32 (FloatKind.f32.nearest n) = some (n * ((2 ^ 1074 : Nat) : Int)) ∧ (single.read (FloatKind.f32.nearest n)).isInfinity = false := by
  rw [← signed_self n 1074]
  have hl : n.natAbs.log2 ≤ 24 := log2_lt_of (Nat.lt_of_le_of_lt h (by decide))
  have hk := key_nearest single (decide (n < 0)) n.natAbs 0 (by omega) (by rw [s_lp]; omega) ?_ (by rw [s_inf]; omega) ?_ ?_
  · exact ⟨hk.1, hk.2.2⟩
  · rw [s_lp, s_frac]
    by_cases h24 : n.natAbs.log2 = 24
    · have h0 : n.natAbs ≠ 0 := by intro h0; rw [h0] at h24; simp at h24
      have := (log2_spec h0).1
      rw [h24] at this
      rw [h24, show n.natAbs = 2 ^ 24 from Nat.le_antisymm h this]
      exact ⟨2 ^ 23, by decide⟩
    · rw [show (max (0 + (n.natAbs.log2 : Int) - (23 : Nat)) (-149) - 0).toNat = 0 from by omega]
      exact ⟨n.natAbs, by simp⟩
  · rw [s_inf, s_bin, s_lp, s_frac]; omega
  · rw [s_inf, s_bin]; omega

theorem key_toInt (f : Format) (hf : f = double ∨ f = single) (x : Nat) {n : Int} (h : key (f.read x) = some (n * ((2 ^ 1074 : Nat) : Int))) (hi : (f.read x).isInfinity = false) : (f.read x).toInt .zero = some n := by
  rcases read_cases f x with ⟨_, m, p, hr, hp, _⟩ | ⟨_, _, hr⟩ | hr | hr
  · rw [hr] at h ⊢
    have hp' : -1074 ≤ p := by
      rcases hf with rfl | rfl
      · rw [d_lp] at hp; exact hp
      · rw [s_lp] at hp; omega
    exact toInt_of_key 1074 (by show (-1074 : Int) ≤ p; exact hp') (Option.some.inj h)
  · rw [hr] at hi; cases hi
  · rw [not_nan_of_key h] at hr; cases hr
  · rcases hf with rfl | rfl
    · rw [d_inf, d_bin] at hr; omega
    · rw [s_inf, s_bin] at hr; omega

/-! ### A double below 1e30 is no infinite float32 -/

theorem down_inf {x : Nat} (hi : (single.read (down x)).isInfinity = true) (hf : (double.read x).isInfinity = false) (hn : (double.read x).isNaN = false) :
    ∃ s m p, double.read x = .number s m p ∧ 127 ≤ p + m.log2 ∧ m ≠ 0 ∧ -1074 ≤ p := by
  rcases read_cases double x with ⟨_, m, p, hr, hp, _⟩ | ⟨_, _, hr⟩ | hr | hr
  · rw [d_lp] at hp
    generalize (x / double.signWeight % 2 == 1) = sg at hr
    refine ⟨_, m, p, hr, ?_, ?_, hp⟩
    all_goals
      unfold down at hi
      rw [hr] at hi
      have hi' : (single.read (single.nearest sg m p)).isInfinity = true := hi
      have h0 : 0 < single.infRung := by rw [s_inf]; omega
      by_cases hm : m = 0
      · subst hm
        unfold Format.nearest at hi'
        rw [if_pos rfl, (key_word single sg h0 (by rw [s_lp]; omega)).2.2.2] at hi'
        cases hi'
      · obtain ⟨n, kept, hnr, hk1, _, hl, _⟩ := nearest_parts single sg p hm
        first
          | exact hm
          | (rw [hnr] at hi'
             rcases Nat.lt_or_ge (n * single.binade + kept) single.infRung with hlt | hge
             · rw [Nat.min_eq_left (Nat.le_of_lt hlt), (key_word single sg hlt (by rw [s_lp]; omega)).2.2.2] at hi'
               cases hi'
             · rw [s_inf, s_bin] at hge
               rw [s_bin] at hk1
               rw [s_lp, s_frac] at hl
               omega)
  · rw [hr] at hf; cases hf
  · rw [hr] at hn; cases hn
  · rw [d_inf, d_bin] at hr; omega

theorem signed_big {s : Bool} {m a K : Nat} (hm : m ≠ 0) (h : K ≤ m.log2 + a) : ((2 ^ K : Nat) : Int) ≤ signed s m a ∨ signed s m a ≤ -((2 ^ K : Nat) : Int) := by
  have h1 : 2 ^ K ≤ m * 2 ^ a := by
    calc 2 ^ K ≤ 2 ^ (m.log2 + a) := Nat.pow_le_pow_right (by decide) h
      _ = 2 ^ m.log2 * 2 ^ a := Nat.pow_add ..
      _ ≤ m * 2 ^ a := Nat.mul_le_mul_right _ (log2_spec hm).1
  unfold signed
  rw [Nat.shiftLeft_eq]
  have h2 : ((2 ^ K : Nat) : Int) ≤ ((m * 2 ^ a : Nat) : Int) := Int.ofNat_le.2 h1
  generalize ((2 ^ K : Nat) : Int) = A at *
  generalize ((m * 2 ^ a : Nat) : Int) = B at *
  cases s
  · left; simpa using h2
  · right; simp; omega

theorem pow_mono (a b : Nat) (h : a ≤ b) : (2 ^ a : Nat) ≤ 2 ^ b := Nat.pow_le_pow_right (by decide) h
theorem cmp_lt {x y : Int} (h : compare x y = .lt) : x < y := by
  simp only [compare, compareOfLessAndEq] at h
  split at h
  · assumption
  · split at h <;> cases h
theorem cmp_gt {x y : Int} (h : compare x y = .gt) : y < x := by
  simp only [compare, compareOfLessAndEq] at h
  split at h
  · cases h
  · split at h
    · cases h
    · omega

/-- Between two numbers that are not great. -/
theorem down_fin {x a b : Nat} {A B : Int} (ha : key64 a = some A) (hb : key64 b = some B) (hA : A < ((2 ^ 1201 : Nat) : Int)) (hB : -((2 ^ 1201 : Nat) : Int) < B)
    (h1 : double.order x a = some .lt) (h2 : double.order x b = some .gt) : (single.read (down x)).isInfinity = false := by
  rw [order64, ha] at h1
  rw [order64, hb] at h2
  cases hk : key64 x with
  | none => rw [hk] at h1; cases h1
  | some X =>
    rw [hk] at h1 h2
    have g1 := cmp_lt (Option.some.inj h1)
    have g2 := cmp_gt (Option.some.inj h2)
    have hk' : key (double.read x) = some X := hk
    cases hi : (single.read (down x)).isInfinity with
    | false => rfl
    | true =>
      exfalso
      have hbig : ∀ K : Nat, K = 2 ^ 1201 → X < (K : Int) → -(K : Int) < X → False := by
        intro K hK c1 c2
        cases hf : (double.read x).isInfinity with
        | true =>
          cases hd : double.read x with
          | infinity s =>
            rw [hd] at hk'
            have hX : X = if s then -big else big := (Option.some.inj hk').symm
            have hb2 : (K : Int) ≤ big := by
              have h4 : (2 ^ 1201 : Nat) ≤ 2 ^ 4000 := pow_mono 1201 4000 (by decide)
              rw [hK]
              unfold big
              exact Int.ofNat_le.2 h4
            cases s
            · simp at hX; omega
            · simp at hX; omega
          | _ => rw [hd] at hf; cases hf
        | false =>
          obtain ⟨s, m, p, hr, hl, hm, hp⟩ := down_inf hi hf (not_nan_of_key hk')
          rw [hr] at hk'
          have hX : X = signed s m (p + 1074).toNat := (Option.some.inj hk').symm
          have := signed_big (s := s) (a := (p + 1074).toNat) (K := 1201) hm (by omega)
          rw [← hX, ← hK] at this
          omega
      obtain ⟨K, hK⟩ : ∃ K : Nat, K = 2 ^ 1201 := ⟨_, rfl⟩
      rw [← hK] at hA hB
      exact hbig K hK (Int.lt_trans g1 hA) (Int.lt_trans hB g2)

/-! ### An integer and zero -/

theorem pow_dvd (a b N : Nat) (h : a ≤ b) : 2 ^ a ∣ N * 2 ^ b := Nat.dvd_trans (Nat.pow_dvd_pow 2 h) (Nat.dvd_mul_left _ _)
theorem zero_dvd (a N b : Nat) (h : N = 0) : a ∣ N * 2 ^ b := by subst h; simp
theorem zero_log2 (N b : Nat) (h : N = 0) : (N * 2 ^ b).log2 = 0 := by subst h; simp
theorem near0 : FloatKind.f64.nearest 0 = 0 := by decide +kernel

theorem sum_key {n : Int} (h : n.natAbs ≤ 2 ^ 24) (s : Bool) : key64 (double.nearest (if n * ((2 ^ 1074 : Nat) : Int) = 0 then s else decide (n * ((2 ^ 1074 : Nat) : Int) < 0)) (n * ((2 ^ 1074 : Nat) : Int)).natAbs (-1074)) = some (n * ((2 ^ 1074 : Nat) : Int)) := by
  have hab : (n * ((2 ^ 1074 : Nat) : Int)).natAbs = n.natAbs * 2 ^ 1074 := by rw [Int.natAbs_mul, Int.natAbs_natCast]
  rw [hab]
  generalize hsg : (if n * ((2 ^ 1074 : Nat) : Int) = 0 then s else decide (n * ((2 ^ 1074 : Nat) : Int) < 0)) = sg
  have hpos : (0 : Int) < ((2 ^ 1074 : Nat) : Int) := (Int.ofNat_lt (n := 0)).2 (Nat.two_pow_pos 1074)
  have hs : signed sg (n.natAbs * 2 ^ 1074) (-1074 + 1074).toNat = n * ((2 ^ 1074 : Nat) : Int) := by
    have e0 : (-1074 + 1074 : Int).toNat = 0 := rfl
    rw [e0]
    by_cases h0 : n = 0
    · subst h0
      clear hpos hsg hab h
      generalize (2 ^ 1074 : Nat) = E
      simp [signed]
    · have hne : n * ((2 ^ 1074 : Nat) : Int) ≠ 0 := Int.mul_ne_zero h0 (Int.ne_of_gt hpos)
      rw [if_neg hne] at hsg
      have hd : decide (n < 0) = sg := by
        rw [← hsg]
        generalize ((2 ^ 1074 : Nat) : Int) = E at *
        rw [decide_eq_decide]
        exact ⟨fun h => Int.mul_neg_of_neg_of_pos h hpos, fun h => by
          rcases Int.lt_or_le n 0 with h' | h'
          · exact h'
          · have := Int.mul_nonneg h' (Int.le_of_lt hpos); omega⟩
      rw [← hd, ← signed_self n 1074]
      refine signed_eq _ ?_
      rw [Nat.pow_zero, Nat.mul_one]
  have hk := key_nearest double sg (n.natAbs * 2 ^ 1074) (-1074) (by omega) (by rw [d_lp]; omega) ?_ (by rw [d_inf]; omega) ?_ ?_
  · rw [hs] at hk
    exact hk.1
  · by_cases h0 : n.natAbs = 0
    · exact zero_dvd _ n.natAbs 1074 h0
    · rw [log2_mul_pow (a := 1074) h0, d_lp, d_frac]
      have hl : n.natAbs.log2 ≤ 24 := log2_lt_of (Nat.lt_of_le_of_lt h (by decide))
      have hpd : ∀ b : Nat, b = 1074 → 2 ^ (max (-1074 + ((n.natAbs.log2 + 1074 : Nat) : Int) - ((52 : Nat) : Int)) (-1074) - -1074).toNat ∣ n.natAbs * 2 ^ b := fun b hb => pow_dvd _ b _ (by omega)
      exact hpd 1074 rfl
  · by_cases h0 : n.natAbs = 0
    · rw [zero_log2 n.natAbs 1074 h0, d_inf, d_bin, d_lp, d_frac]; omega
    · rw [log2_mul_pow (a := 1074) h0, d_inf, d_bin, d_lp, d_frac]
      have hl : n.natAbs.log2 ≤ 24 := log2_lt_of (Nat.lt_of_le_of_lt h (by decide))
      omega
  · rw [d_inf, d_bin]; omega

theorem read0 : double.read 0 = .number false 0 (-1074) := by decide +kernel

theorem near_number {n : Int} (h : n.natAbs ≤ 2 ^ 24) : ∃ s m p, double.read (FloatKind.f64.nearest n) = .number s m p ∧ -1074 ≤ p ∧ signed s m (p + 1074).toNat = n * ((2 ^ 1074 : Nat) : Int) := by
  have hk := up_number (s := decide (n < 0)) (m := n.natAbs) (p := 0) (Nat.lt_of_le_of_lt h (by decide)) (by omega) (by omega)
  have hk1 : key (double.read (FloatKind.f64.nearest n)) = some (n * ((2 ^ 1074 : Nat) : Int)) := by rw [← signed_self n 1074]; exact hk.1
  have hk2 : (double.read (FloatKind.f64.nearest n)).isInfinity = false := hk.2.2
  rcases read_cases double (FloatKind.f64.nearest n) with ⟨_, m, p, hr, hp, _⟩ | ⟨_, _, hr⟩ | hr | hr
  · rw [d_lp] at hp
    refine ⟨_, m, p, hr, hp, ?_⟩
    rw [hr] at hk1
    exact Option.some.inj hk1
  · rw [hr] at hk2; cases hk2
  · rw [not_nan_of_key hk1] at hr; cases hr
  · rw [d_inf, d_bin] at hr; omega

theorem add_zero_key {n : Int} (h : n.natAbs ≤ 2 ^ 24) : ∃ r, double.add (FloatKind.f64.nearest n) 0 = some r ∧ key64 r = some (n * ((2 ^ 1074 : Nat) : Int)) := by
  obtain ⟨s, m, p, hr, hp, hs⟩ := near_number h
  refine ⟨_, by unfold Format.add; rw [hr, read0]; rfl, ?_⟩
  have hmin : min p (-1074) = -1074 := by omega
  have e2 : signed false 0 (-1074 - -1074 : Int).toNat = 0 := by unfold signed; simp
  simp only [hmin, e2, Int.add_zero]
  rw [show p - -1074 = p + 1074 from by omega, hs]
  exact sum_key h _

theorem zero_add_key {n : Int} (h : n.natAbs ≤ 2 ^ 24) : ∃ r, double.add 0 (FloatKind.f64.nearest n) = some r ∧ key64 r = some (n * ((2 ^ 1074 : Nat) : Int)) := by
  obtain ⟨s, m, p, hr, hp, hs⟩ := near_number h
  refine ⟨_, by unfold Format.add; rw [hr, read0]; rfl, ?_⟩
  have hmin : min (-1074) p = -1074 := by omega
  have e2 : signed false 0 (-1074 - -1074 : Int).toNat = 0 := by unfold signed; simp
  simp only [hmin, e2, Int.zero_add]
  rw [show p - -1074 = p + 1074 from by omega, hs]
  exact sum_key h _

end Go.Proofs.YtiijcmdfbgoafaaDoor.Flt
