/-
  ql.coerce1 (what the parts share). PRINTED BY wip/tpl/gen_co1.py.
-/
import Derived.Test.YtamekjbdpcflfaaFit
namespace Go.Proofs.Ytamekjbdpcflfaa
open Go.RowKit

/-- Some integer of a kind comes back; nothing has turned. -/
def IntPost (T : TypeId) (q : IntKind) (w : World) (e : Ending) (w' : World) : Prop := ∃ m, q.min ≤ m ∧ m ≤ q.max ∧ e = .returned (.iface T (.int q m)) ∧ w = w'

theorem wrap_bounds (k : IntKind) (n : Int) : k.min ≤ k.wrap n ∧ k.wrap n ≤ k.max := by
  cases k <;> simp only [IntKind.min, IntKind.max, IntKind.wrap, IntKind.bits, IntKind.signed, if_true, if_false, Bool.true_and, Bool.false_and, Bool.false_eq_true, decide_eq_true_eq, ge_iff_le, Nat.reduceSub, Int.reducePow] <;> (try split) <;> omega

set_option maxRecDepth 100000 in
set_option maxHeartbeats 1000000 in
theorem co1_conc (U V : TypeId) (x z : Value) (h1 : U ≠ 73) (h2 : U ≠ 74) (h3 : U ≠ 75) (h4 : U ≠ 76) (w : World) :
    Calls Try.prog 56 #[.iface U x, .iface V z] w fun e w' => e = .returned (.iface U x) ∧ w = w' := by
  go_enter Try.func56, Try.ntmps56
  go_wp2
  go_ret
  exact ⟨rfl, rfl⟩

set_option maxRecDepth 100000 in
set_option maxHeartbeats 1000000 in
theorem co1_nilr (x : Value) (w : World) : Calls Try.prog 56 #[x, .nilIface] w fun e w' => e = .returned x ∧ w = w' := by
  go_enter Try.func56, Try.ntmps56
  go_wp2
  go_ret
  exact ⟨rfl, rfl⟩

set_option maxRecDepth 100000 in
set_option maxHeartbeats 1000000 in
theorem co1_nill (V : TypeId) (z : Value) (w : World) : Calls Try.prog 56 #[.nilIface, .iface V z] w fun e w' => e = .returned .nilIface ∧ w = w' := by
  go_enter Try.func56, Try.ntmps56
  go_wp2
  go_ret
  exact ⟨rfl, rfl⟩

end Go.Proofs.Ytamekjbdpcflfaa
