/-
  The walk of laws.FnCoerceIntegers, joined: it returns true. PRINTED BY wip/tpl/gen_coi.py.
-/
import Derived.Test.YtamekjbdpcflfaaCoi1
namespace Go.Proofs.Ytamekjbdpcflfaa
open Go.RowKit

theorem fit_rec {n : Int} {q : IntKind} {k : ByteArray} {g : Nat} (hk : Kd.of k.toList = .int q) (hg : FOut (.int q n) g) : (SV.int q n).nm.toList = k.toList ∧ g = 0 := by
  unfold FOut at hg
  rw [if_neg (by simp [SV.isN32])] at hg
  refine ⟨?_, hg⟩
  rw [Kd.of_lit _ hk (by simp)]
  cases q <;> (simp only [SV.nm]; decide +kernel)

theorem want_rec {n : Int} {q : IntKind} {k : ByteArray} {g : Nat} (hk : Kd.of k.toList = .int q) (hg : FOut (.int q n) g) :
    sameB (SV.int q n).nm (SV.int q n).oN (SV.int q n).oU g (SV.int q n).oS k (if q.signed = true then n else 0) (if q.signed = true then 0 else n) 0 empS = true := by
  obtain ⟨h1, rfl⟩ := fit_rec hk hg
  unfold sameB
  rw [h1]
  simp [SV.oN, SV.oU, SV.oS, empS]

def RC (a b : Value) (wa wb : ByteArray × Int × Int × Nat × ByteArray) : Prop :=
  ∀ w, Calls Try.prog 23 #[a, b] w fun e w' => ∃ k1 n1 u1 f1 s1 k2 n2 u2 f2 s2, e = .returned (.tuple #[.agg #[.string k1, .int .i64 n1, .int .u64 u1, .float .f64 f1, .string s1], .agg #[.string k2, .int .i64 n2, .int .u64 u2, .float .f64 f2, .string s2]]) ∧ sameB k1 n1 u1 f1 s1 wa.1 wa.2.1 wa.2.2.1 wa.2.2.2.1 wa.2.2.2.2 = true ∧ sameB k2 n2 u2 f2 s2 wb.1 wb.2.1 wb.2.2.1 wb.2.2.2.1 wb.2.2.2.2 = true ∧ Below w.heap.size w w'

theorem lit_rng {n : Int} (n1 : -9223372036854775808 ≤ n) (n2 : n ≤ 9223372036854775807) : Rng n 0 0 := ⟨n1, n2, by omega, by omega, by omega⟩
theorem lit_valid (n : Int) : validB (Kd.of idealIntS.toList) n 0 0 empS = true := by
  rw [show Kd.of idealIntS.toList = .iInt from by decide +kernel]
  simp only [validB]
  rw [show zeros 0 empS = true from by decide +kernel]
  simp
theorem lit_sv {n : Int} {x : SV} (h : SVof (Kd.of idealIntS.toList) n 0 0 empS x) : x = .iInt n := by
  rw [show Kd.of idealIntS.toList = .iInt from by decide +kernel] at h
  unfold SVof at h
  rw [if_neg (fun h => by cases h.1)] at h
  exact h
theorem int_sv {k : ByteArray} {m u : Int} {f : Nat} {s : ByteArray} {q : IntKind} {x : SV} (hk : Kd.of k.toList = .int q) (h : SVof (Kd.of k.toList) m u f s x) : x = .int q (if q.signed = true then m else u) := by
  rw [hk] at h
  unfold SVof at h
  rw [if_neg (fun h => by cases h.1)] at h
  exact h

theorem rc1 (n : Int) (n1 : -9223372036854775808 ≤ n) (n2 : n ≤ 9223372036854775807) (k : ByteArray) (m u : Int) (f : Nat) (s : ByteArray) (hr : Rng m u f) (hv : validB (Kd.of k.toList) m u f s = true) (q : IntKind) (hk : Kd.of k.toList = .int q) (hf : fitI q n = true) :
    RC (.agg #[.string idealIntS, .int .i64 n, .int .u64 0, .float .f64 0, .string empS]) (.agg #[.string k, .int .i64 m, .int .u64 u, .float .f64 f, .string s]) (k, (if q.signed = true then n else 0), (if q.signed = true then 0 else n), 0, empS) (k, m, u, f, s) := fun w =>
  (implCoerce_any idealIntS n 0 0 empS k m u f s (lit_rng n1 n2) (lit_valid n) hr hv w).mono fun e w' ⟨x, y, a, b, g, h, hx, hy, ht, hg, hh, he, hb⟩ => by
    obtain rfl := lit_sv hx
    obtain rfl := int_sv hk hy
    obtain rfl := ht.ia n q _ rfl rfl hf
    obtain rfl := ht.kb rfl
    exact ⟨_, _, _, _, _, _, _, _, _, _, he, want_rec hk hg, back_same hv hy hh, hb⟩

theorem rc2 (n : Int) (n1 : -9223372036854775808 ≤ n) (n2 : n ≤ 9223372036854775807) (k : ByteArray) (m u : Int) (f : Nat) (s : ByteArray) (hr : Rng m u f) (hv : validB (Kd.of k.toList) m u f s = true) (q : IntKind) (hk : Kd.of k.toList = .int q) (hf : fitI q n = true) :
    RC (.agg #[.string k, .int .i64 m, .int .u64 u, .float .f64 f, .string s]) (.agg #[.string idealIntS, .int .i64 n, .int .u64 0, .float .f64 0, .string empS]) (k, m, u, f, s) (k, (if q.signed = true then n else 0), (if q.signed = true then 0 else n), 0, empS) := fun w =>
  (implCoerce_any k m u f s idealIntS n 0 0 empS hr hv (lit_rng n1 n2) (lit_valid n) w).mono fun e w' ⟨x, y, a, b, g, h, hx, hy, ht, hg, hh, he, hb⟩ => by
    obtain rfl := lit_sv hy
    obtain rfl := int_sv hk hx
    obtain rfl := ht.ib n q _ rfl rfl hf
    obtain rfl := ht.ka rfl
    exact ⟨_, _, _, _, _, _, _, _, _, _, he, back_same hv hx hg, want_rec hk hh, hb⟩

theorem rc3 (n : Int) (n1 : -9223372036854775808 ≤ n) (n2 : n ≤ 9223372036854775807) (k : ByteArray) (m u : Int) (f : Nat) (s : ByteArray) (hr : Rng m u f) (hv : validB (Kd.of k.toList) m u f s = true) (q : IntKind) (hk : Kd.of k.toList = .int q) (hf : fitI q n = true) (w : World) :
    Calls Try.prog 25 #[.agg #[.string idealIntS, .int .i64 n, .int .u64 0, .float .f64 0, .string empS], .agg #[.string k, .int .i64 m, .int .u64 u, .float .f64 f, .string s]] w fun e w' => ∃ k5 n5 u5 f5 s5, e = .returned (.agg #[.string k5, .int .i64 n5, .int .u64 u5, .float .f64 f5, .string s5]) ∧ sameB k5 n5 u5 f5 s5 k (if q.signed = true then n else 0) (if q.signed = true then 0 else n) 0 empS = true ∧ Below w.heap.size w w' :=
  (implCoerceTo_any idealIntS n 0 0 empS k m u f s (lit_rng n1 n2) (lit_valid n) hr hv w).mono fun e w' ⟨x, y, a, g, hx, hy, ht, ka, ia, hg, he, hb⟩ => by
    obtain rfl := lit_sv hx
    obtain rfl := int_sv hk hy
    obtain rfl := ia n q _ rfl rfl hf
    exact ⟨_, _, _, _, _, he, want_rec hk hg, hb⟩

theorem lawCoI_walk (n : Int) (wn : (Lit.int .i64 n).wf = true) (k : ByteArray) (m u : Int) (f : Nat) (s : ByteArray) (hr : Rng m u f) (w : World) :
    Calls Try.prog 8 #[.int .i64 n, .agg #[.string k, .int .i64 m, .int .u64 u, .float .f64 f, .string s]] w fun e w' => e = .returned (.bool true) ∧ Below w.heap.size w w' := by
  simp only [Lit.wf, Bool.and_eq_true, decide_eq_true_eq, q_i64.1, q_i64.2] at wn
  obtain ⟨n1, n2⟩ := wn
  have hz := fun w => zzFits1_any k m u f s w
  cases h1 : fitsB k s with
  | false =>
    rw [h1] at hz
    exact lawCoI_long n k m u f s hz w
  | true =>
  rw [h1] at hz
  have hi := fun w => isInteger_any k m u f s w
  cases h2 : decide (0 < (Kd.of k.toList).width) && concB (Kd.of k.toList) m u f s with
  | false =>
    rw [h2] at hi
    exact lawCoI_not n k m u f s hz hi w
  | true =>
  rw [h2] at hi
  rw [Bool.and_eq_true, decide_eq_true_eq] at h2
  have hv := conc_valid h2.2
  have hq : ∃ q, Kd.of k.toList = .int q := by
    obtain ⟨h3, h4⟩ := h2
    unfold concB at h4
    simp only [Bool.and_eq_true, Bool.not_eq_true'] at h4
    have h5 := h4.1.2
    clear hi hv h4
    generalize Kd.of k.toList = K at *
    cases K with
    | int q => exact ⟨q, rfl⟩
    | _ => first | exact absurd h3 (by decide) | exact absurd h5 (by decide)
  obtain ⟨q, hk⟩ := hq
  have hw := fun w => width_any k w
  rw [hk] at hw
  have r1 := rc1 n n1 n2 k m u f s hr hv q hk
  have r2 := rc2 n n1 n2 k m u f s hr hv q hk
  have r3 := rc3 n n1 n2 k m u f s hr hv q hk
  clear h2 hv hk
  cases q
  case i8 =>
    by_cases hp : 0 ≤ n
    · by_cases hq : n / 128 = n / 9223372036854775808
      · exact lawCoI_i8_pos_fit n k m u f s hp hq hz hi hw (r1 (by rw [fitI_iff, q_i8.1, q_i8.2]; omega)) (r2 (by rw [fitI_iff, q_i8.1, q_i8.2]; omega)) (r3 (by rw [fitI_iff, q_i8.1, q_i8.2]; omega)) w
      · exact lawCoI_i8_pos_not n k m u f s hp (beq_eq_false_iff_ne.2 hq) hz hi hw w
    · by_cases hq : n / 128 = n / 9223372036854775808
      · exact lawCoI_i8_neg_fit n k m u f s (by omega) hq hz hi hw (r1 (by rw [fitI_iff, q_i8.1, q_i8.2]; omega)) (r2 (by rw [fitI_iff, q_i8.1, q_i8.2]; omega)) (r3 (by rw [fitI_iff, q_i8.1, q_i8.2]; omega)) w
      · exact lawCoI_i8_neg_not n k m u f s (by omega) (beq_eq_false_iff_ne.2 hq) hz hi hw w
  case i16 =>
    by_cases hp : 0 ≤ n
    · by_cases hq : n / 32768 = n / 9223372036854775808
      · exact lawCoI_i16_pos_fit n k m u f s hp hq hz hi hw (r1 (by rw [fitI_iff, q_i16.1, q_i16.2]; omega)) (r2 (by rw [fitI_iff, q_i16.1, q_i16.2]; omega)) (r3 (by rw [fitI_iff, q_i16.1, q_i16.2]; omega)) w
      · exact lawCoI_i16_pos_not n k m u f s hp (beq_eq_false_iff_ne.2 hq) hz hi hw w
    · by_cases hq : n / 32768 = n / 9223372036854775808
      · exact lawCoI_i16_neg_fit n k m u f s (by omega) hq hz hi hw (r1 (by rw [fitI_iff, q_i16.1, q_i16.2]; omega)) (r2 (by rw [fitI_iff, q_i16.1, q_i16.2]; omega)) (r3 (by rw [fitI_iff, q_i16.1, q_i16.2]; omega)) w
      · exact lawCoI_i16_neg_not n k m u f s (by omega) (beq_eq_false_iff_ne.2 hq) hz hi hw w
  case i32 =>
    by_cases hp : 0 ≤ n
    · by_cases hq : n / 2147483648 = n / 9223372036854775808
      · exact lawCoI_i32_pos_fit n k m u f s hp hq hz hi hw (r1 (by rw [fitI_iff, q_i32.1, q_i32.2]; omega)) (r2 (by rw [fitI_iff, q_i32.1, q_i32.2]; omega)) (r3 (by rw [fitI_iff, q_i32.1, q_i32.2]; omega)) w
      · exact lawCoI_i32_pos_not n k m u f s hp (beq_eq_false_iff_ne.2 hq) hz hi hw w
    · by_cases hq : n / 2147483648 = n / 9223372036854775808
      · exact lawCoI_i32_neg_fit n k m u f s (by omega) hq hz hi hw (r1 (by rw [fitI_iff, q_i32.1, q_i32.2]; omega)) (r2 (by rw [fitI_iff, q_i32.1, q_i32.2]; omega)) (r3 (by rw [fitI_iff, q_i32.1, q_i32.2]; omega)) w
      · exact lawCoI_i32_neg_not n k m u f s (by omega) (beq_eq_false_iff_ne.2 hq) hz hi hw w
  case i64 =>
    by_cases hp : 0 ≤ n
    · exact lawCoI_i64_pos_fit n k m u f s hp hz hi hw (r1 (by rw [fitI_iff, q_i64.1, q_i64.2]; omega)) (r2 (by rw [fitI_iff, q_i64.1, q_i64.2]; omega)) (r3 (by rw [fitI_iff, q_i64.1, q_i64.2]; omega)) w
    · exact lawCoI_i64_neg_fit n k m u f s (by omega) hz hi hw (r1 (by rw [fitI_iff, q_i64.1, q_i64.2]; omega)) (r2 (by rw [fitI_iff, q_i64.1, q_i64.2]; omega)) (r3 (by rw [fitI_iff, q_i64.1, q_i64.2]; omega)) w
  case u8 =>
    by_cases hp : 0 ≤ n
    · by_cases hq : n / 256 = 0
      · exact lawCoI_u8_pos_fit n k m u f s hp hq hz hi hw (r1 (by rw [fitI_iff, q_u8.1, q_u8.2]; omega)) (r2 (by rw [fitI_iff, q_u8.1, q_u8.2]; omega)) (r3 (by rw [fitI_iff, q_u8.1, q_u8.2]; omega)) n2 w
      · exact lawCoI_u8_pos_not n k m u f s hp (beq_eq_false_iff_ne.2 hq) hz hi hw w
    · exact lawCoI_u8_neg_not n k m u f s (by omega) hz hi hw w
  case u16 =>
    by_cases hp : 0 ≤ n
    · by_cases hq : n / 65536 = 0
      · exact lawCoI_u16_pos_fit n k m u f s hp hq hz hi hw (r1 (by rw [fitI_iff, q_u16.1, q_u16.2]; omega)) (r2 (by rw [fitI_iff, q_u16.1, q_u16.2]; omega)) (r3 (by rw [fitI_iff, q_u16.1, q_u16.2]; omega)) n2 w
      · exact lawCoI_u16_pos_not n k m u f s hp (beq_eq_false_iff_ne.2 hq) hz hi hw w
    · exact lawCoI_u16_neg_not n k m u f s (by omega) hz hi hw w
  case u32 =>
    by_cases hp : 0 ≤ n
    · by_cases hq : n / 4294967296 = 0
      · exact lawCoI_u32_pos_fit n k m u f s hp hq hz hi hw (r1 (by rw [fitI_iff, q_u32.1, q_u32.2]; omega)) (r2 (by rw [fitI_iff, q_u32.1, q_u32.2]; omega)) (r3 (by rw [fitI_iff, q_u32.1, q_u32.2]; omega)) n2 w
      · exact lawCoI_u32_pos_not n k m u f s hp (beq_eq_false_iff_ne.2 hq) hz hi hw w
    · exact lawCoI_u32_neg_not n k m u f s (by omega) hz hi hw w
  case u64 =>
    by_cases hp : 0 ≤ n
    · exact lawCoI_u64_pos_fit n k m u f s hp hz hi hw (r1 (by rw [fitI_iff, q_u64.1, q_u64.2]; omega)) (r2 (by rw [fitI_iff, q_u64.1, q_u64.2]; omega)) (r3 (by rw [fitI_iff, q_u64.1, q_u64.2]; omega)) n2 w
    · exact lawCoI_u64_neg_not n k m u f s (by omega) hz hi hw w

end Go.Proofs.Ytamekjbdpcflfaa
