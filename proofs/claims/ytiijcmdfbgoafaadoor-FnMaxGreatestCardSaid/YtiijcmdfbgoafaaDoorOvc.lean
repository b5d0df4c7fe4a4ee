/-
  impl.over: what its walks share. PRINTED BY wip/tpl/gen_ov.py.
-/
import Derived.Test.YtiijcmdfbgoafaaDoorLc0
import Derived.Test.YtiijcmdfbgoafaaDoorFa
import Derived.Test.YtiijcmdfbgoafaaDoorTold
namespace Go.Proofs.YtiijcmdfbgoafaaDoor
open Go.RowKit

theorem below_two (w : World) (a c : Obj) : Below w.heap.size w ((w.alloc a).alloc c) := ((Below.refl _ _).alloc (Nat.le_refl _) _).alloc (by simp) _

/-- What lies in the cells of the two results. -/
theorem two_cells {w w2 : World} (hb : Below ((w.alloc (.cells #[.string ⟨#[]⟩, .int .i64 0, .int .u64 0, .float .f64 0, .string ⟨#[]⟩] 30)).alloc (.cells #[.int .i64 0] 3)).heap.size ((w.alloc (.cells #[.string ⟨#[]⟩, .int .i64 0, .int .u64 0, .float .f64 0, .string ⟨#[]⟩] 30)).alloc (.cells #[.int .i64 0] 3)) w2) :
    w2.cell? ⟨w.heap.size, 0, none⟩ = some (.string ⟨#[]⟩) ∧ w2.cell? ⟨w.heap.size, 1, none⟩ = some (.int .i64 0) ∧ w2.cell? ⟨w.heap.size, 2, none⟩ = some (.int .u64 0) ∧
    w2.cell? ⟨w.heap.size, 3, none⟩ = some (.float .f64 0) ∧ w2.cell? ⟨w.heap.size, 4, none⟩ = some (.string ⟨#[]⟩) ∧ w2.cell? ⟨w.heap.size + 1, 0, none⟩ = some (.int .i64 0) := by
  obtain ⟨hc, _⟩ := bcell hb
  refine ⟨?_, ?_, ?_, ?_, ?_, ?_⟩
  all_goals
    rw [hc _ _ (by simp <;> omega)]
    simp [go_sem]

end Go.Proofs.YtiijcmdfbgoafaaDoor
