/-
  What the program's text lays into the error of division by zero, as a walk wants it; a world that has it.
-/
import Derived.Test.YtiijcmdfbgoafaaDoorErr
import Derived.Test.YtiijcmdfbgoafaaDoorFrame
import Derived.LaidLaws
import Derived.Stop.LaidErr
import Derived.Stop.ErrReads
namespace Go.Proofs.YtiijcmdfbgoafaaDoor
open Go.ChangeShapes Go.WideShapes Go.RowKit
set_option maxRecDepth 100000

theorem glob : Tryd.prog.globalNamed "pub-quern/pub/ql.errDivByZero" = some 1 := by kernel_rfl
theorem globType : (Tryd.prog.globals[1]?).map (·.type) = some 53 := by kernel_rfl
theorem cellsE : Tryd.prog.cellsOf 103 = 1 := by kernel_rfl
theorem starE : "*" ++ "errors.errorString" = "*errors.errorString" := by decide
theorem rowE (u : TypeId) (h : Tryd.prog.typeName? 3 u = some "*errors.errorString") : u = 101 :=
  typeName_ptr_named (nm := "errors.errorString") (by rw [starE]; kernel_rfl) (by kernel_rfl) (by decide) u (by rw [starE]; exact h)

theorem has_of_laid {W : World} (h : laidMet Tryd.prog [("pub-quern/pub/ql.errDivByZero", Rows.laid_pub_quern_pub_ql_errDivByZero)] W) : ∃ a, Has W a := by
  obtain ⟨ps, ⟨g0, t0, cs0, f0, p0, q0, hg0, ht0, hv0, hd0, hq0, e0⟩, hnd, hrows⟩ := h
  obtain rfl := Option.some.inj (glob.symm.trans hg0)
  obtain rfl := Option.some.inj (globType.symm.trans ht0)
  have hq0' : q0 = [] := hq0
  subst hq0'
  subst e0
  obtain ⟨l0⟩ := cs0
  have ok0 : ∀ u v, l0 = [.iface u v] → Value.okWide Tryd.prog W .any 0 u v := fun u v e => by
    subst e
    exact (hrows 1 0 (by simp [MemPlace.row])).2 u v (by simpa using World.var?_cell hg0 hv0 0)
  obtain ⟨a0, s0, rfl, hc0, hs0, hz0, rfl⟩ := errorString_of_trod Tryd.underlying53 rowE Tryd.underlying101 Tryd.underlying103 rfl rfl Tryd.underlying9 cellsE cellsS hd0 ok0
  obtain ⟨c0, u0, hb0⟩ := (hrows a0.block a0.off (by simp [MemPlace.row])).1
  have hc : W.cell? ⟨1, 0, none⟩ = some (.iface 101 (.pointer (some a0))) := by simpa using World.var?_cell glob hv0 0
  refine ⟨a0, ?_, hc, c0, u0, hb0⟩
  rcases Nat.lt_or_ge 1 W.heap.size with h' | h'
  · exact h'
  · simp [World.cell?, Array.getElem?_eq_none h'] at hc

abbrev divS : ByteArray := { data := #[100, 105, 118, 105, 115, 105, 111, 110, 32, 98, 121, 32, 122, 101, 114, 111] }
noncomputable def low : Nat := (World.holding Tryd.prog default ⟨#[], #[], []⟩).heap.size
noncomputable def laidWorld (os : Os) : World :=
  let w0 := World.holding Tryd.prog os ⟨#[.cells #[.string divS] 103], #[], []⟩
  { w0 with heap := w0.heap.modify 1 fun
      | .cells _ t frozen => .cells #[.iface 101 (.pointer (some ⟨low, 0, none⟩))] t frozen
      | o => o }
theorem laidWorld_met (os : Os) (args : Array Value) : laidMet Tryd.prog [("pub-quern/pub/ql.errDivByZero", Rows.laid_pub_quern_pub_ql_errDivByZero)] ((laidWorld os).forCall (fun _ _ => 0) ⟨#[], args, []⟩).memory :=
  laidMet_of_run (ps := [.cell 1 0, .cell low 0]) 8 (by kernel_rfl) (by kernel_rfl) (by kernel_rfl)

end Go.Proofs.YtiijcmdfbgoafaaDoor
