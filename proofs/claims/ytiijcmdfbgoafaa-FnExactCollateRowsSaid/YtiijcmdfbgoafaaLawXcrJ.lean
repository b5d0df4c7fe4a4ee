/-
  laws.FnExactCollateRows returns true, joined.
-/
import Derived.Test.YtiijcmdfbgoafaaLawXcr
namespace Go.Proofs.Ytiijcmdfbgoafaa
open Go.RowKit

set_option maxHeartbeats 400000 in
theorem sRows_ne (l m : List VV) (A B : Option Addr) (c d : Nat) (hlm : ((l.length : Int) != m.length) = true) (w : World) :
    Calls Try.prog 17 #[.slice A l.length c, .slice B m.length d] w fun e w' => e = .returned (.tuple #[.int .i64 0, .bool false]) ∧ Below w.heap.size w w' := by
  go_enter Try.func17, Try.ntmps17
  go_wp2
  go_ret2
  exact ⟨rfl, Below.refl _ _⟩

theorem goodL_of {l : List VV} (h : l.all VV.val2 = true) (hr : ∀ (j : Nat) (x : VV), l[j]? = some x → Rng x.n x.u x.f) : GoodL l ∧ ∀ (j : Nat) (x : VV), l[j]? = some x → x.s.size ≤ 65536 := by
  rw [List.all_eq_true] at h
  refine ⟨fun j x hx => ?_, fun j x hx => ?_⟩
  all_goals
    have h1 := h x (List.mem_of_getElem? hx)
    unfold VV.val2 at h1
    rw [Bool.and_eq_true, decide_eq_true_eq] at h1
  · exact ⟨hr j x hx, h1.1⟩
  · exact Nat.le_trans h1.2 (by decide)

theorem lawXcr_walk {w : World} (l : List VV) (A : Option Addr) (c : Nat) (hA : LAt w A l) (hrl : ∀ (j : Nat) (x : VV), l[j]? = some x → Rng x.n x.u x.f) (_hml : l.length ≤ maxLen)
    (m : List VV) (B : Option Addr) (d : Nat) (hB : LAt w B m) (hrm : ∀ (j : Nat) (x : VV), m[j]? = some x → Rng x.n x.u x.f) (_hmm : m.length ≤ maxLen) :
    Calls Try.prog 6 #[.slice A l.length c, .slice B m.length d] w fun e w' => e = .returned (.bool true) ∧ Below w.heap.size w w' := by
  have hza := fun w' (hb : Below w.heap.size w w') => zzFits2_any l A c w' (hA.below hb)
  have hzb := fun w' (hb : Below w.heap.size w w') => zzFits2_any m B d w' (hB.below hb)
  cases h1 : fits2B l with
  | false =>
    rw [h1] at hza
    exact lawXcr_longA l m A B c d w hza
  | true =>
  rw [h1] at hza
  cases h2 : fits2B m with
  | false =>
    rw [h2] at hzb
    exact lawXcr_longB l m A B c d w hza hzb
  | true =>
  rw [h2] at hzb
  by_cases a1 : 100 < l.length
  · exact lawXcr_lenA l m A B c d w a1 hza hzb
  by_cases a2 : 100 < m.length
  · exact lawXcr_lenB l m A B c d w (by omega) a2 hza hzb
  have hva := fun w' (hb : Below w.heap.size w w') => allValid_any l A c w' (hA.below hb) (by omega)
  have hvb := fun w' (hb : Below w.heap.size w w') => allValid_any m B d w' (hB.below hb) (by omega)
  cases h3 : l.all VV.val2 with
  | false =>
    rw [h3] at hva
    exact lawXcr_notA l m A B c d w (by omega) (by omega) hza hzb hva
  | true =>
  rw [h3] at hva
  cases h4 : m.all VV.val2 with
  | false =>
    rw [h4] at hvb
    exact lawXcr_notB l m A B c d w (by omega) (by omega) hza hzb hva hvb
  | true =>
  rw [h4] at hvb
  cases h5 : ((l.length : Int) != m.length) with
  | true => exact lawXcr_unsaid l m A B c d w (by omega) (by omega) hza hzb hva hvb _ (fun w' _ => sRows_ne l m A B c d h5 w')
  | false =>
  have hlm0 : (l.length : Int) = m.length := by simpa using h5
  have hlm : l.length = m.length := by omega
  obtain ⟨hg, hs⟩ := goodL_of h3 hrl
  obtain ⟨hg', hs'⟩ := goodL_of h4 hrm
  have hr := fun w' (hb : Below w.heap.size w w') => sRows_any l m A B c d hlm0.symm (by omega) hs hs' w' (hA.below hb) (hB.below hb)
  cases h6 : (scRows l m).2 with
  | false =>
    rw [h6] at hr
    exact lawXcr_unsaid l m A B c d w (by omega) (by omega) hza hzb hva hvb _ hr
  | true =>
  rw [h6] at hr
  have hf := fun w' (hb : Below w.heap.size w w') => implS_any l m A B c d hlm (by omega) hg hg' h6 w' (hA.below hb) (hB.below hb)
  have ht := fun w' (hb : Below w.heap.size w w') => implD_any l m A B c d hlm (by omega) hg hg' h6 w' (hA.below hb) (hB.below hb)
  rcases scRows_three l m with e | e | e
  · rw [e] at hr hf ht
    exact lawXcr_said_lt l m A B c d w (by omega) (by omega) hza hzb hva hvb hr hf ht
  · rw [e] at hr hf ht
    exact lawXcr_said_eq l m A B c d w (by omega) (by omega) hza hzb hva hvb hr hf ht
  · rw [e] at hr hf ht
    exact lawXcr_said_gt l m A B c d w (by omega) (by omega) hza hzb hva hvb hr hf ht

end Go.Proofs.Ytiijcmdfbgoafaa
