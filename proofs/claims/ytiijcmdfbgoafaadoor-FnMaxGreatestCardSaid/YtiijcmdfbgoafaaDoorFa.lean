/-
  impl.fault, deferred, in a frame that returns: recover finds nothing.
-/
import Derived.Test.YtiijcmdfbgoafaaDoorBase
import Derived.Defers
import Derived.Recover
namespace Go.Proofs.YtiijcmdfbgoafaaDoor
open Go.RowKit

theorem fault_idle (p : Addr) (w : World) :
    CallsD Tryd.prog 48 #[.pointer (some p)] .returning w fun e u' w' => e = .returned (.tuple #[]) ∧ u' = .returning ∧ w' = w := by
  refine callsD_of_wpS Tryd.func48 rfl fun c₀ cs hu => ?_
  apply wpS_seq
  apply wpS_region
  simp [wpOpsS, go_sem, recoverD, hu, Tryd.ntmps48, Exit.thenS]
  refine wpS_cond (t := false) (by simp [Act.eval, Array.replicate]) ?_
  simp only [Bool.false_eq_true, if_false]
  refine wpS_of_wp (wp_skip ?_)
  cases c₀
  simp_all [bodyPostS, results, Tryd.results48]

end Go.Proofs.YtiijcmdfbgoafaaDoor
