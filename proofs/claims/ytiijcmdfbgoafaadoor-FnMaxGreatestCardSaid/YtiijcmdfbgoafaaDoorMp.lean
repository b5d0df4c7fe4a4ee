/-
  The map that impl.over hands to an aggregate function: its look-ups and its updates. PRINTED BY wip/tpl/gen_mp.py.
-/
import Derived.Test.YtiijcmdfbgoafaaDoorBase
import Derived.WideMake
namespace Go.Proofs.YtiijcmdfbgoafaaDoor
open Go.RowKit
set_option linter.unusedSimpArgs false

def setMap (w : World) (b : Nat) (o : Obj) : World := { w with heap := w.heap.setIfInBounds b o }

/-- The map under way: what the function has laid so far, if anything. -/
def mapM : Option Value → Obj
  | none => .map #[⟨(.iface 9 (.string ⟨#[36, 102, 110]⟩)), (.iface 9 (.string ⟨#[102]⟩)), 0⟩] 1
  | some v => .map #[⟨(.iface 9 (.string ⟨#[36, 102, 110]⟩)), (.iface 9 (.string ⟨#[102]⟩)), 0⟩, ⟨(.iface 9 (.string ⟨#[102]⟩)), v, 1⟩] 2
/-- The map when all values have been told. -/
def mapA : Option Value → Obj
  | none => .map #[⟨(.iface 9 (.string ⟨#[36, 102, 110]⟩)), (.iface 9 (.string ⟨#[102]⟩)), 0⟩, ⟨(.iface 9 (.string ⟨#[36, 97, 103, 103]⟩)), (.iface 4 (.bool true)), 1⟩] 2
  | some v => .map #[⟨(.iface 9 (.string ⟨#[36, 102, 110]⟩)), (.iface 9 (.string ⟨#[102]⟩)), 0⟩, ⟨(.iface 9 (.string ⟨#[102]⟩)), v, 1⟩, ⟨(.iface 9 (.string ⟨#[36, 97, 103, 103]⟩)), (.iface 4 (.bool true)), 2⟩] 3
/-- The map when there was no value. -/
def mapZ : Obj := .map #[⟨(.iface 9 (.string ⟨#[36, 102, 110]⟩)), (.iface 9 (.string ⟨#[102]⟩)), 0⟩, ⟨(.iface 9 (.string ⟨#[36, 97, 103, 103]⟩)), (.iface 4 (.bool true)), 1⟩, ⟨(.iface 9 (.string ⟨#[36, 97, 103, 103, 48]⟩)), (.iface 4 (.bool true)), 2⟩] 3

theorem mp_ty : Tryd.prog.underlying 84 = some (.map 20 20) := by kernel_rfl
theorem mp_zero (w : World) : (zeroValue 20).run Tryd.prog w = .ok .nilIface w := by kernel_rfl
theorem ck_fn (e : Bool) (w : World) : (Instr.checkKey e 10000 20 (.iface 9 (.string ⟨#[36, 102, 110]⟩))).run Tryd.prog w = .ok () w := by cases e <;> kernel_rfl
theorem ck_f (e : Bool) (w : World) : (Instr.checkKey e 10000 20 (.iface 9 (.string ⟨#[102]⟩))).run Tryd.prog w = .ok () w := by cases e <;> kernel_rfl
theorem ck_agg (e : Bool) (w : World) : (Instr.checkKey e 10000 20 (.iface 9 (.string ⟨#[36, 97, 103, 103]⟩))).run Tryd.prog w = .ok () w := by cases e <;> kernel_rfl
theorem ck_agg0 (e : Bool) (w : World) : (Instr.checkKey e 10000 20 (.iface 9 (.string ⟨#[36, 97, 103, 103, 48]⟩))).run Tryd.prog w = .ok () w := by cases e <;> kernel_rfl
theorem fk_mN_fn (w : World) : (Instr.findKey 20 (.iface 9 (.string ⟨#[36, 102, 110]⟩)) [⟨(.iface 9 (.string ⟨#[36, 102, 110]⟩)), (.iface 9 (.string ⟨#[102]⟩)), 0⟩]).run Tryd.prog w = .ok (some (0, (.iface 9 (.string ⟨#[102]⟩)))) w := by kernel_rfl
theorem fk_mN_f (w : World) : (Instr.findKey 20 (.iface 9 (.string ⟨#[102]⟩)) [⟨(.iface 9 (.string ⟨#[36, 102, 110]⟩)), (.iface 9 (.string ⟨#[102]⟩)), 0⟩]).run Tryd.prog w = .ok none w := by kernel_rfl
theorem fk_mN_agg (w : World) : (Instr.findKey 20 (.iface 9 (.string ⟨#[36, 97, 103, 103]⟩)) [⟨(.iface 9 (.string ⟨#[36, 102, 110]⟩)), (.iface 9 (.string ⟨#[102]⟩)), 0⟩]).run Tryd.prog w = .ok none w := by kernel_rfl
theorem fk_mN_agg0 (w : World) : (Instr.findKey 20 (.iface 9 (.string ⟨#[36, 97, 103, 103, 48]⟩)) [⟨(.iface 9 (.string ⟨#[36, 102, 110]⟩)), (.iface 9 (.string ⟨#[102]⟩)), 0⟩]).run Tryd.prog w = .ok none w := by kernel_rfl
theorem fk_mS_fn (v : Value) (w : World) : (Instr.findKey 20 (.iface 9 (.string ⟨#[36, 102, 110]⟩)) [⟨(.iface 9 (.string ⟨#[36, 102, 110]⟩)), (.iface 9 (.string ⟨#[102]⟩)), 0⟩, ⟨(.iface 9 (.string ⟨#[102]⟩)), v, 1⟩]).run Tryd.prog w = .ok (some (0, (.iface 9 (.string ⟨#[102]⟩)))) w := by kernel_rfl
theorem fk_mS_f (v : Value) (w : World) : (Instr.findKey 20 (.iface 9 (.string ⟨#[102]⟩)) [⟨(.iface 9 (.string ⟨#[36, 102, 110]⟩)), (.iface 9 (.string ⟨#[102]⟩)), 0⟩, ⟨(.iface 9 (.string ⟨#[102]⟩)), v, 1⟩]).run Tryd.prog w = .ok (some (1, v)) w := by kernel_rfl
theorem fk_mS_agg (v : Value) (w : World) : (Instr.findKey 20 (.iface 9 (.string ⟨#[36, 97, 103, 103]⟩)) [⟨(.iface 9 (.string ⟨#[36, 102, 110]⟩)), (.iface 9 (.string ⟨#[102]⟩)), 0⟩, ⟨(.iface 9 (.string ⟨#[102]⟩)), v, 1⟩]).run Tryd.prog w = .ok none w := by kernel_rfl
theorem fk_mS_agg0 (v : Value) (w : World) : (Instr.findKey 20 (.iface 9 (.string ⟨#[36, 97, 103, 103, 48]⟩)) [⟨(.iface 9 (.string ⟨#[36, 102, 110]⟩)), (.iface 9 (.string ⟨#[102]⟩)), 0⟩, ⟨(.iface 9 (.string ⟨#[102]⟩)), v, 1⟩]).run Tryd.prog w = .ok none w := by kernel_rfl
theorem fk_aN_fn (w : World) : (Instr.findKey 20 (.iface 9 (.string ⟨#[36, 102, 110]⟩)) [⟨(.iface 9 (.string ⟨#[36, 102, 110]⟩)), (.iface 9 (.string ⟨#[102]⟩)), 0⟩, ⟨(.iface 9 (.string ⟨#[36, 97, 103, 103]⟩)), (.iface 4 (.bool true)), 1⟩]).run Tryd.prog w = .ok (some (0, (.iface 9 (.string ⟨#[102]⟩)))) w := by kernel_rfl
theorem fk_aN_f (w : World) : (Instr.findKey 20 (.iface 9 (.string ⟨#[102]⟩)) [⟨(.iface 9 (.string ⟨#[36, 102, 110]⟩)), (.iface 9 (.string ⟨#[102]⟩)), 0⟩, ⟨(.iface 9 (.string ⟨#[36, 97, 103, 103]⟩)), (.iface 4 (.bool true)), 1⟩]).run Tryd.prog w = .ok none w := by kernel_rfl
theorem fk_aN_agg (w : World) : (Instr.findKey 20 (.iface 9 (.string ⟨#[36, 97, 103, 103]⟩)) [⟨(.iface 9 (.string ⟨#[36, 102, 110]⟩)), (.iface 9 (.string ⟨#[102]⟩)), 0⟩, ⟨(.iface 9 (.string ⟨#[36, 97, 103, 103]⟩)), (.iface 4 (.bool true)), 1⟩]).run Tryd.prog w = .ok (some (1, (.iface 4 (.bool true)))) w := by kernel_rfl
theorem fk_aN_agg0 (w : World) : (Instr.findKey 20 (.iface 9 (.string ⟨#[36, 97, 103, 103, 48]⟩)) [⟨(.iface 9 (.string ⟨#[36, 102, 110]⟩)), (.iface 9 (.string ⟨#[102]⟩)), 0⟩, ⟨(.iface 9 (.string ⟨#[36, 97, 103, 103]⟩)), (.iface 4 (.bool true)), 1⟩]).run Tryd.prog w = .ok none w := by kernel_rfl
theorem fk_aS_fn (v : Value) (w : World) : (Instr.findKey 20 (.iface 9 (.string ⟨#[36, 102, 110]⟩)) [⟨(.iface 9 (.string ⟨#[36, 102, 110]⟩)), (.iface 9 (.string ⟨#[102]⟩)), 0⟩, ⟨(.iface 9 (.string ⟨#[102]⟩)), v, 1⟩, ⟨(.iface 9 (.string ⟨#[36, 97, 103, 103]⟩)), (.iface 4 (.bool true)), 2⟩]).run Tryd.prog w = .ok (some (0, (.iface 9 (.string ⟨#[102]⟩)))) w := by kernel_rfl
theorem fk_aS_f (v : Value) (w : World) : (Instr.findKey 20 (.iface 9 (.string ⟨#[102]⟩)) [⟨(.iface 9 (.string ⟨#[36, 102, 110]⟩)), (.iface 9 (.string ⟨#[102]⟩)), 0⟩, ⟨(.iface 9 (.string ⟨#[102]⟩)), v, 1⟩, ⟨(.iface 9 (.string ⟨#[36, 97, 103, 103]⟩)), (.iface 4 (.bool true)), 2⟩]).run Tryd.prog w = .ok (some (1, v)) w := by kernel_rfl
theorem fk_aS_agg (v : Value) (w : World) : (Instr.findKey 20 (.iface 9 (.string ⟨#[36, 97, 103, 103]⟩)) [⟨(.iface 9 (.string ⟨#[36, 102, 110]⟩)), (.iface 9 (.string ⟨#[102]⟩)), 0⟩, ⟨(.iface 9 (.string ⟨#[102]⟩)), v, 1⟩, ⟨(.iface 9 (.string ⟨#[36, 97, 103, 103]⟩)), (.iface 4 (.bool true)), 2⟩]).run Tryd.prog w = .ok (some (2, (.iface 4 (.bool true)))) w := by kernel_rfl
theorem fk_aS_agg0 (v : Value) (w : World) : (Instr.findKey 20 (.iface 9 (.string ⟨#[36, 97, 103, 103, 48]⟩)) [⟨(.iface 9 (.string ⟨#[36, 102, 110]⟩)), (.iface 9 (.string ⟨#[102]⟩)), 0⟩, ⟨(.iface 9 (.string ⟨#[102]⟩)), v, 1⟩, ⟨(.iface 9 (.string ⟨#[36, 97, 103, 103]⟩)), (.iface 4 (.bool true)), 2⟩]).run Tryd.prog w = .ok none w := by kernel_rfl
theorem fk_z_fn (w : World) : (Instr.findKey 20 (.iface 9 (.string ⟨#[36, 102, 110]⟩)) [⟨(.iface 9 (.string ⟨#[36, 102, 110]⟩)), (.iface 9 (.string ⟨#[102]⟩)), 0⟩, ⟨(.iface 9 (.string ⟨#[36, 97, 103, 103]⟩)), (.iface 4 (.bool true)), 1⟩, ⟨(.iface 9 (.string ⟨#[36, 97, 103, 103, 48]⟩)), (.iface 4 (.bool true)), 2⟩]).run Tryd.prog w = .ok (some (0, (.iface 9 (.string ⟨#[102]⟩)))) w := by kernel_rfl
theorem fk_z_f (w : World) : (Instr.findKey 20 (.iface 9 (.string ⟨#[102]⟩)) [⟨(.iface 9 (.string ⟨#[36, 102, 110]⟩)), (.iface 9 (.string ⟨#[102]⟩)), 0⟩, ⟨(.iface 9 (.string ⟨#[36, 97, 103, 103]⟩)), (.iface 4 (.bool true)), 1⟩, ⟨(.iface 9 (.string ⟨#[36, 97, 103, 103, 48]⟩)), (.iface 4 (.bool true)), 2⟩]).run Tryd.prog w = .ok none w := by kernel_rfl
theorem fk_z_agg (w : World) : (Instr.findKey 20 (.iface 9 (.string ⟨#[36, 97, 103, 103]⟩)) [⟨(.iface 9 (.string ⟨#[36, 102, 110]⟩)), (.iface 9 (.string ⟨#[102]⟩)), 0⟩, ⟨(.iface 9 (.string ⟨#[36, 97, 103, 103]⟩)), (.iface 4 (.bool true)), 1⟩, ⟨(.iface 9 (.string ⟨#[36, 97, 103, 103, 48]⟩)), (.iface 4 (.bool true)), 2⟩]).run Tryd.prog w = .ok (some (1, (.iface 4 (.bool true)))) w := by kernel_rfl
theorem fk_z_agg0 (w : World) : (Instr.findKey 20 (.iface 9 (.string ⟨#[36, 97, 103, 103, 48]⟩)) [⟨(.iface 9 (.string ⟨#[36, 102, 110]⟩)), (.iface 9 (.string ⟨#[102]⟩)), 0⟩, ⟨(.iface 9 (.string ⟨#[36, 97, 103, 103]⟩)), (.iface 4 (.bool true)), 1⟩, ⟨(.iface 9 (.string ⟨#[36, 97, 103, 103, 48]⟩)), (.iface 4 (.bool true)), 2⟩]).run Tryd.prog w = .ok (some (2, (.iface 4 (.bool true)))) w := by kernel_rfl
theorem fk_e_fn (w : World) : (Instr.findKey 20 (.iface 9 (.string ⟨#[36, 102, 110]⟩)) []).run Tryd.prog w = .ok none w := by kernel_rfl
theorem fk_e_f (w : World) : (Instr.findKey 20 (.iface 9 (.string ⟨#[102]⟩)) []).run Tryd.prog w = .ok none w := by kernel_rfl
theorem fk_e_agg (w : World) : (Instr.findKey 20 (.iface 9 (.string ⟨#[36, 97, 103, 103]⟩)) []).run Tryd.prog w = .ok none w := by kernel_rfl
theorem fk_e_agg0 (w : World) : (Instr.findKey 20 (.iface 9 (.string ⟨#[36, 97, 103, 103, 48]⟩)) []).run Tryd.prog w = .ok none w := by kernel_rfl

theorem lkM_agg0 (s : Option Value) (b : Nat) (w : World) (h : w.heap[b]? = some (mapM s)) : (Instr.lookup 84 (.map (some b)) (.iface 9 (.string ⟨#[36, 97, 103, 103, 48]⟩)) true).run Tryd.prog w = .ok (.tuple #[.nilIface, .bool false]) w := by
  cases s with
  | none => simp [Instr.lookup, run_underlying mp_ty, MapKept.run_getObj_map h, ck_agg0, fk_mN_agg0, mp_zero, Result.andThen]
  | some v => simp [Instr.lookup, run_underlying mp_ty, MapKept.run_getObj_map h, ck_agg0, fk_mS_agg0, mp_zero, Result.andThen]
theorem lkM_agg (s : Option Value) (b : Nat) (w : World) (h : w.heap[b]? = some (mapM s)) : (Instr.lookup 84 (.map (some b)) (.iface 9 (.string ⟨#[36, 97, 103, 103]⟩)) true).run Tryd.prog w = .ok (.tuple #[.nilIface, .bool false]) w := by
  cases s with
  | none => simp [Instr.lookup, run_underlying mp_ty, MapKept.run_getObj_map h, ck_agg, fk_mN_agg, mp_zero, Result.andThen]
  | some v => simp [Instr.lookup, run_underlying mp_ty, MapKept.run_getObj_map h, ck_agg, fk_mS_agg, mp_zero, Result.andThen]
theorem lkM_fn (s : Option Value) (b : Nat) (w : World) (h : w.heap[b]? = some (mapM s)) : (Instr.lookup 84 (.map (some b)) (.iface 9 (.string ⟨#[36, 102, 110]⟩)) false).run Tryd.prog w = .ok (.iface 9 (.string ⟨#[102]⟩)) w := by
  cases s with
  | none => simp [Instr.lookup, run_underlying mp_ty, MapKept.run_getObj_map h, ck_fn, fk_mN_fn, mp_zero, Result.andThen]
  | some v => simp [Instr.lookup, run_underlying mp_ty, MapKept.run_getObj_map h, ck_fn, fk_mS_fn, mp_zero, Result.andThen]
theorem lkM_f (s : Option Value) (b : Nat) (w : World) (h : w.heap[b]? = some (mapM s)) : (Instr.lookup 84 (.map (some b)) (.iface 9 (.string ⟨#[102]⟩)) false).run Tryd.prog w = .ok (s.getD .nilIface) w := by
  cases s with
  | none => simp [Instr.lookup, run_underlying mp_ty, MapKept.run_getObj_map h, ck_f, fk_mN_f, mp_zero, Result.andThen]
  | some v => simp [Instr.lookup, run_underlying mp_ty, MapKept.run_getObj_map h, ck_f, fk_mS_f, mp_zero, Result.andThen]
theorem lkA_agg0 (s : Option Value) (b : Nat) (w : World) (h : w.heap[b]? = some (mapA s)) : (Instr.lookup 84 (.map (some b)) (.iface 9 (.string ⟨#[36, 97, 103, 103, 48]⟩)) true).run Tryd.prog w = .ok (.tuple #[.nilIface, .bool false]) w := by
  cases s with
  | none => simp [Instr.lookup, run_underlying mp_ty, MapKept.run_getObj_map h, ck_agg0, fk_aN_agg0, mp_zero, Result.andThen]
  | some v => simp [Instr.lookup, run_underlying mp_ty, MapKept.run_getObj_map h, ck_agg0, fk_aS_agg0, mp_zero, Result.andThen]
theorem lkA_agg (s : Option Value) (b : Nat) (w : World) (h : w.heap[b]? = some (mapA s)) : (Instr.lookup 84 (.map (some b)) (.iface 9 (.string ⟨#[36, 97, 103, 103]⟩)) true).run Tryd.prog w = .ok (.tuple #[(.iface 4 (.bool true)), .bool true]) w := by
  cases s with
  | none => simp [Instr.lookup, run_underlying mp_ty, MapKept.run_getObj_map h, ck_agg, fk_aN_agg, mp_zero, Result.andThen]
  | some v => simp [Instr.lookup, run_underlying mp_ty, MapKept.run_getObj_map h, ck_agg, fk_aS_agg, mp_zero, Result.andThen]
theorem lkA_fn (s : Option Value) (b : Nat) (w : World) (h : w.heap[b]? = some (mapA s)) : (Instr.lookup 84 (.map (some b)) (.iface 9 (.string ⟨#[36, 102, 110]⟩)) false).run Tryd.prog w = .ok (.iface 9 (.string ⟨#[102]⟩)) w := by
  cases s with
  | none => simp [Instr.lookup, run_underlying mp_ty, MapKept.run_getObj_map h, ck_fn, fk_aN_fn, mp_zero, Result.andThen]
  | some v => simp [Instr.lookup, run_underlying mp_ty, MapKept.run_getObj_map h, ck_fn, fk_aS_fn, mp_zero, Result.andThen]
theorem lkA_f (s : Option Value) (b : Nat) (w : World) (h : w.heap[b]? = some (mapA s)) : (Instr.lookup 84 (.map (some b)) (.iface 9 (.string ⟨#[102]⟩)) false).run Tryd.prog w = .ok (s.getD .nilIface) w := by
  cases s with
  | none => simp [Instr.lookup, run_underlying mp_ty, MapKept.run_getObj_map h, ck_f, fk_aN_f, mp_zero, Result.andThen]
  | some v => simp [Instr.lookup, run_underlying mp_ty, MapKept.run_getObj_map h, ck_f, fk_aS_f, mp_zero, Result.andThen]
theorem lkA_fok (s : Option Value) (b : Nat) (w : World) (h : w.heap[b]? = some (mapA s)) : (Instr.lookup 84 (.map (some b)) (.iface 9 (.string ⟨#[102]⟩)) true).run Tryd.prog w = .ok (.tuple #[s.getD .nilIface, .bool s.isSome]) w := by
  cases s with
  | none => simp [Instr.lookup, run_underlying mp_ty, MapKept.run_getObj_map h, ck_f, fk_aN_f, mp_zero, Result.andThen]
  | some v => simp [Instr.lookup, run_underlying mp_ty, MapKept.run_getObj_map h, ck_f, fk_aS_f, mp_zero, Result.andThen]
theorem lkZ_agg0 (b : Nat) (w : World) (h : w.heap[b]? = some (mapZ)) : (Instr.lookup 84 (.map (some b)) (.iface 9 (.string ⟨#[36, 97, 103, 103, 48]⟩)) true).run Tryd.prog w = .ok (.tuple #[(.iface 4 (.bool true)), .bool true]) w := by
  simp [Instr.lookup, run_underlying mp_ty, MapKept.run_getObj_map h, ck_agg0, fk_z_agg0, mp_zero, Result.andThen]

theorem stays_f (w : World) : (Instr.keyThatStays (.iface 9 (.string ⟨#[102]⟩)) (.iface 9 (.string ⟨#[102]⟩))).run Tryd.prog w = .ok (.iface 9 (.string ⟨#[102]⟩)) w := by kernel_rfl
theorem upM_f (s : Option Value) (x : Value) (b : Nat) (w : World) (h : w.heap[b]? = some (mapM s)) : (Instr.mapUpdate 84 (.map (some b)) (.iface 9 (.string ⟨#[102]⟩)) x).run Tryd.prog w = .ok () (setMap w b (mapM (some x))) := by
  cases s with
  | none => simp [Instr.mapUpdate, run_underlying mp_ty, MapKept.run_getObj_map h, ck_f, MapKept.run_setObj_map _ h, stays_f, Result.andThen, mapM, mapA, mapZ, setMap, fk_mN_f]
  | some v => simp [Instr.mapUpdate, run_underlying mp_ty, MapKept.run_getObj_map h, ck_f, MapKept.run_setObj_map _ h, stays_f, Result.andThen, mapM, mapA, mapZ, setMap, fk_mS_f]
theorem upM_agg (s : Option Value) (b : Nat) (w : World) (h : w.heap[b]? = some (mapM s)) : (Instr.mapUpdate 84 (.map (some b)) (.iface 9 (.string ⟨#[36, 97, 103, 103]⟩)) (.iface 4 (.bool true))).run Tryd.prog w = .ok () (setMap w b (mapA s)) := by
  cases s with
  | none => simp [Instr.mapUpdate, run_underlying mp_ty, MapKept.run_getObj_map h, ck_agg, MapKept.run_setObj_map _ h, stays_f, Result.andThen, mapM, mapA, mapZ, setMap, fk_mN_agg]
  | some v => simp [Instr.mapUpdate, run_underlying mp_ty, MapKept.run_getObj_map h, ck_agg, MapKept.run_setObj_map _ h, stays_f, Result.andThen, mapM, mapA, mapZ, setMap, fk_mS_agg]
theorem upA_agg0 (b : Nat) (w : World) (h : w.heap[b]? = some (mapA none)) : (Instr.mapUpdate 84 (.map (some b)) (.iface 9 (.string ⟨#[36, 97, 103, 103, 48]⟩)) (.iface 4 (.bool true))).run Tryd.prog w = .ok () (setMap w b (mapZ)) := by
  simp [Instr.mapUpdate, run_underlying mp_ty, MapKept.run_getObj_map h, ck_agg0, MapKept.run_setObj_map _ h, stays_f, Result.andThen, mapM, mapA, mapZ, setMap, fk_aN_agg0]
theorem upE_fn (b : Nat) (w : World) (h : w.heap[b]? = some (.map #[] 0)) : (Instr.mapUpdate 84 (.map (some b)) (.iface 9 (.string ⟨#[36, 102, 110]⟩)) (.iface 9 (.string ⟨#[102]⟩))).run Tryd.prog w = .ok () (setMap w b (mapM none)) := by
  simp [Instr.mapUpdate, run_underlying mp_ty, MapKept.run_getObj_map h, ck_fn, MapKept.run_setObj_map _ h, stays_f, Result.andThen, mapM, mapA, mapZ, setMap, fk_e_fn]

theorem alloc_set (W : World) (o o' : Obj) : setMap (W.alloc o) W.heap.size o' = W.alloc o' := by
  unfold setMap
  have e : ∀ o : Obj, W.alloc o = { W with heap := W.heap.push o } := fun _ => rfl
  rw [e, e]
  have : (W.heap.push o).setIfInBounds W.heap.size o' = W.heap.push o' := by
    apply Array.ext'
    simp [List.set_append]
  simp [this]
theorem upE_alloc (W : World) : (Instr.mapUpdate 84 (.map (some W.heap.size)) (.iface 9 (.string ⟨#[36, 102, 110]⟩)) (.iface 9 (.string ⟨#[102]⟩))).run Tryd.prog (W.alloc (.map #[] 0)) = .ok () (W.alloc (mapM none)) := by
  rw [upE_fn W.heap.size (W.alloc (.map #[] 0)) (MapKept.heap_alloc W _).1, alloc_set]
theorem upE_two (w : World) (a c : Obj) : (Instr.mapUpdate 84 (.map (some (w.heap.size + 1 + 1))) (.iface 9 (.string ⟨#[36, 102, 110]⟩)) (.iface 9 (.string ⟨#[102]⟩))).run Tryd.prog (((w.alloc a).alloc c).alloc (.map #[] 0)) = .ok () (((w.alloc a).alloc c).alloc (mapM none)) := by
  have h := upE_alloc ((w.alloc a).alloc c)
  rw [show ((w.alloc a).alloc c).heap.size = w.heap.size + 1 + 1 by simp] at h
  exact h

end Go.Proofs.YtiijcmdfbgoafaaDoor
