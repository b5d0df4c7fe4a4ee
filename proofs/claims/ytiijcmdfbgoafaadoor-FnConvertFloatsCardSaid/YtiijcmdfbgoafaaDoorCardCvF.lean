/-
  laws.FnConvertFloats returns true for every input, and leaves its arguments as they were, the error of division by zero being laid by the program's text: the given card 'FnConvertFloatsCardSaid'. No other condition.
-/
import Derived.Test.YtiijcmdfbgoafaaDoorLawCvF
import Derived.Test.YtiijcmdfbgoafaaDoorFrame
import Derived.Test.YtiijcmdfbgoafaaDoorHas
import Derived.Test.YtiijcmdfbgoafaaDoorCards
import Derived.Test.YtiijcmdfbgoafaaDoorTie
import Derived.SevenTiedAt
namespace Go.Proofs.YtiijcmdfbgoafaaDoor.cvF
open Go.ChangeShapes Go.WideShapes Go.ChangeAt Go.RowKit
open Go.ChangeMaps (open_string shut_string)
set_option linter.unusedVariables false

set_option maxRecDepth 100000 in
theorem lifted (os : Os) (started : os.Started) (H : Type) (enc : TypeId × Value → H) :
    ReturnsInHanded {} Tryd.checked os 4 .any (fun w args => (Rows.fnConvertFloatsSpec.pre enc Tryd.prog Tryd.f4 [] false w args ∧ laidMet Tryd.prog [("pub-quern/pub/ql.errDivByZero", Rows.laid_pub_quern_pub_ql_errDivByZero)] w) ∧ sizedMet enc Tryd.prog Tryd.f4 (OpenSpec.ofChange Rows.fnConvertFloatsSpec) false w args)
      (Rows.fnConvertFloatsSpec.post enc Tryd.prog Tryd.f4 false true false false) := by
  refine returnsInHanded_of_change_and (C := Tryd.checked) (X := fun w _ => laidMet Tryd.prog [("pub-quern/pub/ql.errDivByZero", Rows.laid_pub_quern_pub_ql_errDivByZero)] w) (fun _ _ _ hh h => h.of_heap hh) own started (by kernel_rfl) Tryd.func4
    (ChangeSpec.witness_at (enc := enc) (C := Tryd.checked) (os := os) (X := fun w _ => laidMet Tryd.prog [("pub-quern/pub/ql.errDivByZero", Rows.laid_pub_quern_pub_ql_errDivByZero)] w) false (laidWorld os) #[.agg #[.string ⟨#[]⟩, .int .i64 0, .int .u64 0, .float .f64 0, .string ⟨#[]⟩], .bool false] 8 rfl (by kernel_rfl) (by kernel_rfl) (by kernel_rfl) (by kernel_rfl) (by kernel_rfl) (laidWorld_met os _)) ?_
  intro W base args ds gs before hval0 hW _ _ hL _
  obtain ⟨ea, hG⟩ := has_of_laid hL
  have hval : ∀ (j : Nat) t v, Tryd.f4.params[j]? = some t → args[j]? = some v → Value.okWide Tryd.prog W .any base t v := hval0
  have hW' := hW
  obtain ⟨p, q, hA0, hV, rfl, hfz, hnd⟩ := hW
  have hA : DataW.TrodAll enc Tryd.prog W 0 (fun _ => true) true Tryd.f4.params.toList args.toList ds p := hA0
  rw [Tryd.params4] at hA hval
  obtain ⟨v0, vs0, d0, ds0, p0, q0, hargs, rfl, rfl, h0, r0⟩ := trodAll_cons hA
  obtain ⟨v1, vs1, d1, ds1, p1, q1, rfl, rfl, rfl, h1, r1⟩ := trodAll_cons r0
  obtain ⟨rfl, rfl, rfl⟩ := trodAll_nil r1
  obtain rfl : args = #[v0, v1] := by cases args; simp_all
  obtain ⟨rfl, rfl⟩ := trodVars_none hV
  have k0 := h0
  have lt0 : ∀ x ∈ p0, x.block < W.heap.size := by obtain ⟨m, hm⟩ := k0; exact DataW.trod_lt m _ _ _ hm
  obtain ⟨a0, n0, u0, f0, s0, hv0, hr0, hk0, hs0⟩ := open_value (hval 0 30 v0 rfl rfl) h0
  subst hv0
  obtain ⟨a1, rfl, rfl, rfl⟩ := open_bool Tryd.underlying4 (hval 1 4 v1 rfl rfl) h1
  clear hA0 hval0
  refine (lawCvF_walk a0 n0 u0 f0 s0 hr0 a1 ea W hG).mono fun e W' ⟨he, bel⟩ => ?_
  subst he
  exact ⟨_, rfl, _, _, _, [], _, [], hW', trodAll_mk1 (shut_bool Tryd.underlying4 _), (trodAll_cons_mk (Below.trod laidOut (by kernel_rfl) (of_decide_eq_true (by kernel_rfl)) k0 bel lt0) (trodAll_cons_mk (shut_bool Tryd.underlying4 _) trodAll_mk0)), rfl, bel.frame _, fun h => by cases h⟩

theorem over : Rows.fnConvertFloatsRow.holds Tryd.pinned (OpenSpec.ofChange Rows.fnConvertFloatsSpec) :=
  OpenClaim.holds_of_wide 4 Tryd.f4 rfl rfl rfl rfl rfl rfl rfl ⟨rfl, rfl, rfl, rfl, rfl⟩ rfl rfl rfl rfl rfl (by kernel_rfl) Tryd.func4 (by kernel_rfl)
    (of_decide_eq_true (by kernel_rfl)) (by unfold Func.isWrapper; first | (rw [if_pos (by decide +kernel)]; kernel_rfl) | (rw [if_neg (by decide +kernel)]; exact ⟨rfl, rfl⟩))
    (fun os started H enc _ => lifted os started H enc)

set_option maxRecDepth 100000 in
theorem card : Claim7.holds Tryd.pinned (.plain (OpenSpec.ofChange Rows.fnConvertFloatsSpec)) Rows.fnConvertFloatsCard :=
  Claim7.holds_tied_plain_at .later [] [.sentinel] true Rows.fnConvertFloatsCard.stood.harness true
    over (fun _ h => by cases h) (by kernel_rfl) (fun _ h => by cases h) fnConvertFloats_row_tie rfl ⟨rfl, rfl⟩ (by kernel_rfl) rfl
    (fun f fn hf hfn => by
      obtain rfl : f = 4 := Option.some.inj ((show Tryd.prog.funcNamed "pub-quern/laws.FnConvertFloats" = some 4 by kernel_rfl).symm.trans hf) |>.symm
      obtain rfl : fn = Tryd.f4 := (Option.some.inj (Tryd.func4.symm.trans hfn)).symm
      exact ⟨by kernel_rfl, fun j t ht => by
        rw [Tryd.params4] at ht
        have h3 : t = 30 ∨ t = 4 := by
          rcases j with _ | j
          · have := Option.some.inj ht; subst this; simp
          · rcases j with _ | j
            · have := Option.some.inj ht; subst this; simp
            · simp at ht
        rcases h3 with rfl | rfl
        · exact (show Tryd.prog.wantsStandIn 30 = false by kernel_rfl)
        · exact (show Tryd.prog.wantsStandIn 4 = false by kernel_rfl)⟩)
    (by kernel_rfl)

end Go.Proofs.YtiijcmdfbgoafaaDoor.cvF

namespace Go.Proofs.YtiijcmdfbgoafaaDoor
theorem cvF_holds : Rows.FnConvertFloatsCardSaid := cvF.card
end Go.Proofs.YtiijcmdfbgoafaaDoor
