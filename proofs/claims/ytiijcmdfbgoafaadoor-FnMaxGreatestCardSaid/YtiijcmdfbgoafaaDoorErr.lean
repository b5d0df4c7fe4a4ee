/-
  The package-level error of division by zero, and the number that an error gets: not 0. It needs that the variable holds what the program's text lays into it.
-/
import Derived.Test.YtiijcmdfbgoafaaDoorOut2a
import Derived.LaidEql
namespace Go.Proofs.YtiijcmdfbgoafaaDoor
open Go.RowKit

/-- An error of package errors lies in memory. -/
def Er (w : World) (p : Addr) : Prop := ∃ (c : Array Value) (t : TypeId), w.heap[p.block]? = some (.cells c t (0, 0))

theorem Er.of {w w' : World} {p : Addr} (h : Er w p) (hb : Below w.heap.size w w') : Er w' p := by
  obtain ⟨c, t, h⟩ := h
  have hlt : p.block < w.heap.size := by
    rcases Nat.lt_or_ge p.block w.heap.size with h' | h'
    · exact h'
    · rw [Array.getElem?_eq_none h'] at h; cases h
  exact ⟨c, t, by rw [hb.block _ hlt]; exact h⟩

/-- The variable holds an error of package errors. -/
structure Has (w : World) (a : Addr) : Prop where
  lt : 1 < w.heap.size
  cell : w.cell? ⟨1, 0, none⟩ = some (.iface 101 (.pointer (some a)))
  er : Er w a

theorem Has.of {w w' : World} {a : Addr} (h : Has w a) (hb : Below w.heap.size w w') : Has w' a where
  lt := Nat.lt_of_lt_of_le h.lt hb.size
  cell := by rw [hb.cell (p := ⟨1, 0, none⟩) h.lt]; exact h.cell
  er := h.er.of hb

theorem erComp : (Tryd.prog.info? 101).map (·.comparable) = some true := by kernel_rfl
theorem erSize : (Tryd.prog.info? 103).map (fun i => i.size == 0) = some false := by kernel_rfl

theorem eql_same (a : Addr) (w : World) : (binOp .eql 53 (.iface 101 (.pointer (some a))) (.iface 101 (.pointer (some a)))).run Tryd.prog w = .ok (.bool true) w := by
  obtain ⟨i, hi, hcmp⟩ := Option.map_eq_some_iff.1 erComp
  obtain ⟨j, hj, hjs⟩ := Option.map_eq_some_iff.1 erSize
  exact run_eql_iface_ptr_same w a Tryd.underlying53 Tryd.underlying101 hi hcmp hj

theorem eql_other (a b : Addr) (w : World) (hne : b ≠ a) (ha : Er w a) (hb : Er w b) : (binOp .eql 53 (.iface 101 (.pointer (some b))) (.iface 101 (.pointer (some a)))).run Tryd.prog w = .ok (.bool false) w := by
  obtain ⟨i, hi, hcmp⟩ := Option.map_eq_some_iff.1 erComp
  obtain ⟨j, hj, hjs⟩ := Option.map_eq_some_iff.1 erSize
  obtain ⟨ca, ta, ha⟩ := ha
  obtain ⟨cb, tb, hb⟩ := hb
  exact run_eql_iface_ptr_other w Tryd.underlying53 Tryd.underlying101 hi hcmp hj (beq_eq_false_iff_ne.1 hjs) hne hb ha

set_option maxRecDepth 100000 in
set_option maxHeartbeats 1000000 in
theorem zzErr_nil (w : World) : Calls Tryd.prog 40 #[.nilIface] w fun e w' => e = .returned (.int .i64 0) ∧ w = w' := by
  go_enter Tryd.func40, Tryd.ntmps40
  go_wp2
  go_ret
  exact ⟨rfl, rfl⟩

@[go_sem] theorem as_dup (v : Value) (w : World) : (Instr.typeAssert (.iface 101 v) 53 85 true).run Tryd.prog w = .ok (.tuple #[.slice none 0 0, .bool false]) w := by kernel_rfl

/-- Of an error of package errors the number is not 0. -/
def CodePost (w : World) (e : Ending) (w' : World) : Prop := ∃ c : Int, e = .returned (.int .i64 c) ∧ c ≠ 0 ∧ w = w'

set_option maxRecDepth 100000 in
set_option maxHeartbeats 1000000 in
theorem zzErr_some (a b : Addr) (w : World) (h : Has w a) (hb : Er w b) : Calls Tryd.prog 40 #[.iface 101 (.pointer (some b))] w (CodePost w) := by
  have hc := h.cell
  by_cases hab : b = a
  · have hq := eql_same a w
    subst hab
    clear h hb
    go_enter Tryd.func40, Tryd.ntmps40
    go_wp2
    go_ret
    exact ⟨_, rfl, by decide, rfl⟩
  · have hq := eql_other a b w hab h.er hb
    clear h hb
    go_enter Tryd.func40, Tryd.ntmps40
    go_wp2
    go_ret
    exact ⟨_, rfl, by decide, rfl⟩

/-- An error of package errors is returned; what was there is as it was. -/
def ErPost (w : World) (e : Ending) (w' : World) : Prop := ∃ p, e = .returned (.iface 101 (.pointer (some p))) ∧ Er w' p ∧ Below w.heap.size w w'

theorem er_alloc (w : World) (c : Array Value) (t : TypeId) : Er (w.alloc (.cells c t)) ⟨w.heap.size, 0, none⟩ := ⟨c, t, by show (w.heap.push (.cells c t))[w.heap.size]? = _; simp⟩

set_option maxHeartbeats 400000 in
theorem errNew_er (s : ByteArray) (w : World) : Calls Tryd.prog 56 #[.string s] w (ErPost w) := by
  go_enter Tryd.func56, Tryd.ntmps56
  go_wp2
  go_ret
  exact ⟨_, rfl, er_alloc _ _ _, by repeat (first | exact Below.refl _ _ | exact (Below.refl _ _).alloc (Nat.le_refl _) _ | refine Below.drew ?_ | refine Below.setCell ?_ (by first | omega | (simp; omega) | simp) _ | refine Below.alloc ?_ (by first | omega | (simp; omega) | simp) _ | refine below_drewN ?_ _ | refine up_below ?_ (Nat.le_refl _) (by assumption))⟩

end Go.Proofs.YtiijcmdfbgoafaaDoor
