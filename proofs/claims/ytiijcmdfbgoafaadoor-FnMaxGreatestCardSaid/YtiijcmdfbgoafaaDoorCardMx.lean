/-
  laws.FnMaxGreatest returns true for every input, and leaves its arguments as they were, the error of division by zero being laid by the program's text: the given card 'FnMaxGreatestCardSaid'. No other condition.
-/
import Derived.Test.YtiijcmdfbgoafaaDoorLawMx
import Derived.Test.YtiijcmdfbgoafaaDoorFrameM
import Derived.Test.YtiijcmdfbgoafaaDoorHas
import Derived.Test.YtiijcmdfbgoafaaDoorCards
import Derived.Test.YtiijcmdfbgoafaaDoorTie
import Derived.SevenTiedAt
namespace Go.Proofs.YtiijcmdfbgoafaaDoor.mxg
open Go.ChangeShapes Go.WideShapes Go.ChangeAt Go.RowKit
open Go.ChangeMaps (open_string shut_string)
set_option linter.unusedVariables false

set_option maxRecDepth 100000 in
theorem lifted (os : Os) (started : os.Started) (H : Type) (enc : TypeId × Value → H) :
    ReturnsInHanded {} Tryd.checked os 7 .any (fun w args => (Rows.fnMaxGreatestSpec.pre enc Tryd.prog Tryd.f7 [] false w args ∧ laidMet Tryd.prog [("pub-quern/pub/ql.errDivByZero", Rows.laid_pub_quern_pub_ql_errDivByZero)] w) ∧ sizedMet enc Tryd.prog Tryd.f7 (OpenSpec.ofChange Rows.fnMaxGreatestSpec) false w args)
      (Rows.fnMaxGreatestSpec.post enc Tryd.prog Tryd.f7 false true false false) := by
  refine returnsInHanded_of_change_and (C := Tryd.checked) (X := fun w _ => laidMet Tryd.prog [("pub-quern/pub/ql.errDivByZero", Rows.laid_pub_quern_pub_ql_errDivByZero)] w) (fun _ _ _ hh h => h.of_heap hh) own started (by kernel_rfl) Tryd.func7
    (ChangeSpec.witness_at (enc := enc) (C := Tryd.checked) (os := os) (X := fun w _ => laidMet Tryd.prog [("pub-quern/pub/ql.errDivByZero", Rows.laid_pub_quern_pub_ql_errDivByZero)] w) false (laidWorld os) #[.slice none 0 0] 8 rfl (by kernel_rfl) (by kernel_rfl) (by kernel_rfl) (by kernel_rfl) (by kernel_rfl) (laidWorld_met os _)) ?_
  intro W base args ds gs before hval0 hW _ _ hL _
  obtain ⟨ea, hG⟩ := has_of_laid hL
  have hval : ∀ (j : Nat) t v, Tryd.f7.params[j]? = some t → args[j]? = some v → Value.okWide Tryd.prog W .any base t v := hval0
  have hW' := hW
  obtain ⟨p, q, hA0, hV, rfl, hfz, hnd⟩ := hW
  have hA : DataW.TrodAll enc Tryd.prog W 0 (fun _ => true) true Tryd.f7.params.toList args.toList ds p := hA0
  rw [Tryd.params7] at hA hval
  obtain ⟨v0, vs0, d0, ds0, p0, q0, hargs, rfl, rfl, h0, r0⟩ := trodAll_cons hA
  obtain ⟨rfl, rfl, rfl⟩ := trodAll_nil r0
  obtain rfl : args = #[v0] := by cases args; simp_all
  obtain ⟨rfl, rfl⟩ := trodVars_none hV
  have k0 := h0
  have lt0 : ∀ x ∈ p0, x.block < W.heap.size := by obtain ⟨m, hm⟩ := k0; exact DataW.trod_lt m _ _ _ hm
  obtain ⟨A0, l0, c0, hv0, hl0, hr0, hm0⟩ := open_list (hval 0 44 v0 rfl rfl) h0
  subst hv0
  clear hA0 hval0
  refine (lawMx_any l0 A0 c0 hl0 hr0 hm0 ea hG).mono fun e W' ⟨he, bel⟩ => ?_
  subst he
  exact ⟨_, rfl, _, _, _, [], _, [], hW', trodAll_mk1 (shut_bool Tryd.underlying4 _), (trodAll_cons_mk (Below.trod laidOut (by kernel_rfl) (of_decide_eq_true (by kernel_rfl)) k0 bel lt0) trodAll_mk0), rfl, bel.frame _, fun h => by cases h⟩

theorem over : Rows.fnMaxGreatestRow.holds Tryd.pinned (OpenSpec.ofChange Rows.fnMaxGreatestSpec) :=
  OpenClaim.holds_of_wide 7 Tryd.f7 rfl rfl rfl rfl rfl rfl rfl ⟨rfl, rfl, rfl, rfl, rfl⟩ rfl rfl rfl rfl rfl (by kernel_rfl) Tryd.func7 (by kernel_rfl)
    (of_decide_eq_true (by kernel_rfl)) (by unfold Func.isWrapper; first | (rw [if_pos (by decide +kernel)]; kernel_rfl) | (rw [if_neg (by decide +kernel)]; exact ⟨rfl, rfl⟩))
    (fun os started H enc _ => lifted os started H enc)

set_option maxRecDepth 100000 in
theorem card : Claim7.holds Tryd.pinned (.plain (OpenSpec.ofChange Rows.fnMaxGreatestSpec)) Rows.fnMaxGreatestCard :=
  Claim7.holds_tied_plain_at .later [] [.sentinel] true Rows.fnMaxGreatestCard.stood.harness true
    over (fun _ h => by cases h) (by kernel_rfl) (fun _ h => by cases h) fnMaxGreatest_row_tie rfl ⟨rfl, rfl⟩ (by kernel_rfl) rfl
    (fun f fn hf hfn => by
      obtain rfl : f = 7 := Option.some.inj ((show Tryd.prog.funcNamed "pub-quern/laws.FnMaxGreatest" = some 7 by kernel_rfl).symm.trans hf) |>.symm
      obtain rfl : fn = Tryd.f7 := (Option.some.inj (Tryd.func7.symm.trans hfn)).symm
      exact ⟨by kernel_rfl, fun j t ht => by
        rw [Tryd.params7] at ht
        have h3 : t = 44 := by
          rcases j with _ | j
          · have := Option.some.inj ht; subst this; simp
          · simp at ht
        rcases h3 with rfl
        · exact (show Tryd.prog.wantsStandIn 44 = false by kernel_rfl)⟩)
    (by kernel_rfl)

end Go.Proofs.YtiijcmdfbgoafaaDoor.mxg

namespace Go.Proofs.YtiijcmdfbgoafaaDoor
theorem mxg_holds : Rows.FnMaxGreatestCardSaid := mxg.card
end Go.Proofs.YtiijcmdfbgoafaaDoor
