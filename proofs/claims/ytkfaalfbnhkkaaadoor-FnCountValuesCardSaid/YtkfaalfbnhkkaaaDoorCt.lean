/-
  builtinCount, and the door to it. PRINTED BY wip/tpl/gen_ct.py.
-/
import Derived.Test.YtkfaalfbnhkkaaaDoorMp
import Derived.Test.YtkfaalfbnhkkaaaDoorAs
namespace Go.Proofs.YtkfaalfbnhkkaaaDoor
open Go.RowKit

/-- How many have been counted, as the map has it. -/
def cv : Option Nat → Option Value
  | none => none
  | some n => some (.iface 2 (.int .i64 (n : Int)))
def one01 : Value → Nat
  | .nilIface => 0
  | _ => 1

def CountPost (w : World) (b n : Nat) (e : Ending) (w' : World) : Prop := e = .returned (.tuple #[.nilIface, .nilIface]) ∧ w' = setMap w b (mapM (cv (some n)))

set_option maxRecDepth 100000 in
theorem count_N0 (b a c : Nat) (w : World) (hb : w.heap[b]? = some (mapM (cv (none)))) (hc : w.cell? ⟨a, 0, none⟩ = some (.nilIface)) :
    Calls Tryd.prog 20 #[.slice (some ⟨a, 0, none⟩) 1 c, .map (some b)] w (CountPost w b 0) := by
  have l1 := lkM_agg0 _ b w hb
  have l2 := lkM_fn _ b w hb
  have l3 := lkM_agg _ b w hb
  have l4 := lkM_f _ b w hb
  have l5 := fun v => upM_f _ v b w hb
  simp only [cv, Option.getD] at l4
  clear hb
  go_enter Tryd.func20, Tryd.ntmps20
  go_wp2
  exact bodyPost_ret (v := .tuple #[.nilIface, .nilIface]) (by simp [results, go_sem]) rfl ⟨rfl, rfl⟩

set_option maxRecDepth 100000 in
theorem count_N1 (t : TypeId) (u : Value) (b a c : Nat) (w : World) (hb : w.heap[b]? = some (mapM (cv (none)))) (hc : w.cell? ⟨a, 0, none⟩ = some (.iface t u)) :
    Calls Tryd.prog 20 #[.slice (some ⟨a, 0, none⟩) 1 c, .map (some b)] w (CountPost w b 1) := by
  have l1 := lkM_agg0 _ b w hb
  have l2 := lkM_fn _ b w hb
  have l3 := lkM_agg _ b w hb
  have l4 := lkM_f _ b w hb
  have l5 := fun v => upM_f _ v b w hb
  simp only [cv, Option.getD] at l4
  clear hb
  go_enter Tryd.func20, Tryd.ntmps20
  go_wp2
  exact bodyPost_ret (v := .tuple #[.nilIface, .nilIface]) (by simp [results, go_sem]) rfl ⟨rfl, rfl⟩

set_option maxRecDepth 100000 in
theorem count_S0 (n : Nat) (b a c : Nat) (w : World) (hb : w.heap[b]? = some (mapM (cv (some n)))) (hc : w.cell? ⟨a, 0, none⟩ = some (.nilIface)) :
    Calls Tryd.prog 20 #[.slice (some ⟨a, 0, none⟩) 1 c, .map (some b)] w (CountPost w b n) := by
  have l1 := lkM_agg0 _ b w hb
  have l2 := lkM_fn _ b w hb
  have l3 := lkM_agg _ b w hb
  have l4 := lkM_f _ b w hb
  have l5 := fun v => upM_f _ v b w hb
  simp only [cv, Option.getD] at l4
  clear hb
  go_enter Tryd.func20, Tryd.ntmps20
  go_wp2
  exact bodyPost_ret (v := .tuple #[.nilIface, .nilIface]) (by simp [results, go_sem]) rfl ⟨rfl, rfl⟩

set_option maxRecDepth 100000 in
theorem count_S1 (n : Nat) (hn : n < 2147483648) (t : TypeId) (u : Value) (b a c : Nat) (w : World) (hb : w.heap[b]? = some (mapM (cv (some n)))) (hc : w.cell? ⟨a, 0, none⟩ = some (.iface t u)) :
    Calls Tryd.prog 20 #[.slice (some ⟨a, 0, none⟩) 1 c, .map (some b)] w (CountPost w b (n + 1)) := by
  have l1 := lkM_agg0 _ b w hb
  have l2 := lkM_fn _ b w hb
  have l3 := lkM_agg _ b w hb
  have l4 := lkM_f _ b w hb
  have l5 := fun v => upM_f _ v b w hb
  simp only [cv, Option.getD] at l4
  clear hb
  go_enter Tryd.func20, Tryd.ntmps20
  go_wp2
  exact bodyPost_ret (v := .tuple #[.nilIface, .nilIface]) (by simp [results, go_sem]) rfl ⟨rfl, rfl⟩

set_option maxRecDepth 100000 in
theorem count_A (n : Nat) (b : Nat) (p : Value) (w : World) (hb : w.heap[b]? = some (mapA (cv (some n)))) :
    Calls Tryd.prog 20 #[p, .map (some b)] w fun e w' => e = .returned (.tuple #[.iface 2 (.int .i64 (n : Int)), .nilIface]) ∧ w' = w := by
  have l1 := lkA_agg0 _ b w hb
  have l2 := lkA_fn _ b w hb
  have l3 := lkA_agg _ b w hb
  have l4 := lkA_f _ b w hb
  simp only [cv, Option.getD] at l4
  clear hb
  go_enter Tryd.func20, Tryd.ntmps20
  go_wp2
  exact bodyPost_ret (v := .tuple #[.iface 2 (.int .i64 (n : Int)), .nilIface]) (by simp [results, go_sem]) rfl ⟨rfl, rfl⟩

set_option maxRecDepth 100000 in
theorem count_Z (b : Nat) (p : Value) (w : World) (hb : w.heap[b]? = some (mapZ)) :
    Calls Tryd.prog 20 #[p, .map (some b)] w fun e w' => e = .returned (.tuple #[.iface 2 (.int .i64 0), .nilIface]) ∧ w' = w := by
  have l1 := lkZ_agg0 b w hb
  clear hb
  go_enter Tryd.func20, Tryd.ntmps20
  go_wp2
  exact bodyPost_ret (v := .tuple #[.iface 2 (.int .i64 0), .nilIface]) (by simp [results, go_sem]) rfl ⟨rfl, rfl⟩

/-- A value counted, whatever it is. -/
theorem zzCount_step (o : Option Nat) (hn : o.getD 0 < 2147483648) (v : Value) (hv : v = .nilIface ∨ ∃ t u, v = .iface t u) (b a c : Nat) (w : World) (hb : w.heap[b]? = some (mapM (cv o))) (hc : w.cell? ⟨a, 0, none⟩ = some v) :
    Calls Tryd.prog 13 #[.slice (some ⟨a, 0, none⟩) 1 c, .map (some b)] w (CountPost w b (o.getD 0 + one01 v)) := by
  have H : Calls Tryd.prog 20 #[.slice (some ⟨a, 0, none⟩) 1 c, .map (some b)] w (CountPost w b (o.getD 0 + one01 v)) := by
    cases o with
    | none =>
      rcases hv with rfl | ⟨t, u, rfl⟩
      · exact count_N0 b a c w hb hc
      · exact count_N1 t u b a c w hb hc
    | some n =>
      rcases hv with rfl | ⟨t, u, rfl⟩
      · exact count_S0 n b a c w hb hc
      · exact count_S1 n hn t u b a c w hb hc
  have HC := Lib.hid H
  clear H hb hc hn hv
  go_enter Tryd.func13, Tryd.ntmps13
  go_wp2_with (go_at_call 20; refine (HC.out).mono ?_; rintro e w1 ⟨rfl, rfl⟩)
  exact bodyPost_ret (v := .tuple #[.nilIface, .nilIface]) (by simp [results, go_sem]) rfl ⟨rfl, rfl⟩

theorem zzCount_A (n : Nat) (b : Nat) (p : Value) (w : World) (hb : w.heap[b]? = some (mapA (cv (some n)))) :
    Calls Tryd.prog 13 #[p, .map (some b)] w fun e w' => e = .returned (.tuple #[.iface 2 (.int .i64 n), .nilIface]) ∧ w' = w := by
  have HC := Lib.hid (count_A n b p w hb)
  clear hb
  go_enter Tryd.func13, Tryd.ntmps13
  go_wp2_with (go_at_call 20; refine (HC.out).mono ?_; rintro e w1 ⟨rfl, rfl⟩)
  exact bodyPost_ret (v := .tuple #[.iface 2 (.int .i64 n), .nilIface]) (by simp [results, go_sem]) rfl ⟨rfl, rfl⟩

theorem zzCount_Z (b : Nat) (p : Value) (w : World) (hb : w.heap[b]? = some mapZ) :
    Calls Tryd.prog 13 #[p, .map (some b)] w fun e w' => e = .returned (.tuple #[.iface 2 (.int .i64 0), .nilIface]) ∧ w' = w := by
  have HC := Lib.hid (count_Z b p w hb)
  clear hb
  go_enter Tryd.func13, Tryd.ntmps13
  go_wp2_with (go_at_call 20; refine (HC.out).mono ?_; rintro e w1 ⟨rfl, rfl⟩)
  exact bodyPost_ret (v := .tuple #[.iface 2 (.int .i64 0), .nilIface]) (by simp [results, go_sem]) rfl ⟨rfl, rfl⟩

end Go.Proofs.YtkfaalfbnhkkaaaDoor
