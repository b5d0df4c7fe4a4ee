/-
  builtinMax of any value that a maximum takes; the door to it. PRINTED BY wip/tpl/gen_mz.py.
-/
import Derived.Test.YtiijcmdfbgoafaaDoorMl
namespace Go.Proofs.YtiijcmdfbgoafaaDoor
open Go.RowKit

def mx (o : Option SV) : Option Value := o.map repV

theorem repV_of {w : World} {y : SV} {v : Value} (h : Rep w y v) (hy : y = .null ∨ y.agg = true) : v = repV y := by
  rcases hy with rfl | hy
  · exact h
  · cases y <;> first | exact h | exact absurd hy (by simp [SV.agg])
theorem rep_repV {y : SV} (w : World) (hy : y = .null ∨ y.agg = true) : Rep w y (repV y) := by
  rcases hy with rfl | hy
  · rfl
  · cases y <;> first | rfl | exact absurd hy (by simp [SV.agg])
theorem agg_form {y : SV} (hy : y.agg = true) : ∃ t z, repV y = .iface t z := by
  cases y <;> first | exact ⟨_, _, rfl⟩ | exact absurd hy (by simp [SV.agg])

theorem max_step (o : Option SV) (ho : ∀ u, o = some u → u.agg = true ∧ u.plain) (y : SV) (hy : y = .null ∨ y.agg = true) (py : y.plain) (b a c : Nat) (w : World) (hb : w.heap[b]? = some (mapM (mx o))) (hc : w.cell? ⟨a, 0, none⟩ = some (repV y)) :
    Calls Tryd.prog 49 #[.slice (some ⟨a, 0, none⟩) 1 c, .map (some b)] w (MxPost w b (mx (stepB o y))) := by
  rcases hy with rfl | hy
  · exact max_nil _ b a c w hb hc
  · cases o with
    | none =>
      have e : mx (stepB none y) = some (repV y) := by rw [step_agg hy]; rfl
      rw [e]
      clear py
      cases y with
      | int k n =>
        cases k with
        | i8 => exact max_i8_F n b a c w hb hc
        | i16 => exact max_i16_F n b a c w hb hc
        | i32 => exact max_i32_F n b a c w hb hc
        | i64 => exact max_i64_F n b a c w hb hc
        | u8 => exact max_u8_F n b a c w hb hc
        | u16 => exact max_u16_F n b a c w hb hc
        | u32 => exact max_u32_F n b a c w hb hc
        | u64 => exact max_u64_F n b a c w hb hc
      | f32 x => exact max_f32_F x b a c w hb hc
      | f64 x => exact max_f64_F x b a c w hb hc
      | str x => exact max_str_F x b a c w hb hc
      | _ => exact absurd hy (by simp [SV.agg])
    | some u =>
      obtain ⟨t, z, hz⟩ := agg_form (ho u rfl).1
      have hb' : w.heap[b]? = some (mapM (some (.iface t z))) := by rw [← hz]; exact hb
      have HC : ∀ w', Below w.heap.size w w' → Calls Tryd.prog 58 #[repV y, .iface t z] w' (ColP (y.coll u) w') := fun w' _ => by
        rw [← hz]
        exact coll1_any y u py (ho u rfl).2 _ _ w' (rep_repV w' (.inr hy)) (rep_repV w' (.inr (ho u rfl).1))
      clear hb py
      by_cases hg : 0 < y.coll u
      · have e : mx (stepB (some u) y) = some (repV y) := by rw [step_agg hy]; simp [hg, mx]
        rw [e]
        cases y with
        | int k n =>
          cases k with
          | i8 => exact max_i8_G n t z _ hg b a c w hb' hc HC
          | i16 => exact max_i16_G n t z _ hg b a c w hb' hc HC
          | i32 => exact max_i32_G n t z _ hg b a c w hb' hc HC
          | i64 => exact max_i64_G n t z _ hg b a c w hb' hc HC
          | u8 => exact max_u8_G n t z _ hg b a c w hb' hc HC
          | u16 => exact max_u16_G n t z _ hg b a c w hb' hc HC
          | u32 => exact max_u32_G n t z _ hg b a c w hb' hc HC
          | u64 => exact max_u64_G n t z _ hg b a c w hb' hc HC
        | f32 x => exact max_f32_G x t z _ hg b a c w hb' hc HC
        | f64 x => exact max_f64_G x t z _ hg b a c w hb' hc HC
        | str x => exact max_str_G x t z _ hg b a c w hb' hc HC
        | _ => exact absurd hy (by simp [SV.agg])
      · have e : mx (stepB (some u) y) = some (.iface t z) := by rw [step_agg hy]; simp [hg, mx, hz]
        have hg' : y.coll u ≤ 0 := by omega
        rw [e]
        clear hg
        cases y with
        | int k n =>
          cases k with
          | i8 => exact max_i8_L n t z _ hg' b a c w hb' hc HC
          | i16 => exact max_i16_L n t z _ hg' b a c w hb' hc HC
          | i32 => exact max_i32_L n t z _ hg' b a c w hb' hc HC
          | i64 => exact max_i64_L n t z _ hg' b a c w hb' hc HC
          | u8 => exact max_u8_L n t z _ hg' b a c w hb' hc HC
          | u16 => exact max_u16_L n t z _ hg' b a c w hb' hc HC
          | u32 => exact max_u32_L n t z _ hg' b a c w hb' hc HC
          | u64 => exact max_u64_L n t z _ hg' b a c w hb' hc HC
        | f32 x => exact max_f32_L x t z _ hg' b a c w hb' hc HC
        | f64 x => exact max_f64_L x t z _ hg' b a c w hb' hc HC
        | str x => exact max_str_L x t z _ hg' b a c w hb' hc HC
        | _ => exact absurd hy (by simp [SV.agg])

theorem zzMax_step (o : Option SV) (ho : ∀ u, o = some u → u.agg = true ∧ u.plain) (y : SV) (hy : y = .null ∨ y.agg = true) (py : y.plain) (b a c : Nat) (w : World) (hb : w.heap[b]? = some (mapM (mx o))) (hc : w.cell? ⟨a, 0, none⟩ = some (repV y)) :
    Calls Tryd.prog 36 #[.slice (some ⟨a, 0, none⟩) 1 c, .map (some b)] w (MxPost w b (mx (stepB o y))) := by
  have HC := Lib.hid (max_step o ho y hy py b a c w hb hc)
  clear ho hy py hb hc
  go_enter Tryd.func36, Tryd.ntmps36
  go_wp2_with (go_at_call 49; refine (HC.out).mono ?_; rintro e w1 ⟨rfl, h1, h2⟩; have H2 := Lib.hid h2; clear h2)
  exact bodyPost_ret (v := .tuple #[.nilIface, .nilIface]) (by simp [results, go_sem]) rfl ⟨rfl, h1, H2.out⟩

def MxEnd (s : Option Value) (w : World) (e : Ending) (w' : World) : Prop := e = .returned (.tuple #[s.getD .nilIface, .nilIface]) ∧ w' = w

set_option maxRecDepth 100000 in
theorem max_A (s : Option Value) (b : Nat) (p : Value) (w : World) (hb : w.heap[b]? = some (mapA s)) : Calls Tryd.prog 49 #[p, .map (some b)] w (MxEnd s w) := by
  have l1 := lkA_agg0 _ b w hb
  have l2 := lkA_fn _ b w hb
  have l3 := lkA_agg _ b w hb
  have l4 := lkA_fok _ b w hb
  clear hb
  cases s with
  | none =>
    simp only [Option.getD, Option.isSome] at l4
    go_enter Tryd.func49, Tryd.ntmps49
    go_wp2
    exact bodyPost_ret (v := .tuple #[.nilIface, .nilIface]) (by simp [results, go_sem]) rfl ⟨rfl, rfl⟩
  | some v =>
    simp only [Option.getD, Option.isSome] at l4
    go_enter Tryd.func49, Tryd.ntmps49
    go_wp2
    exact bodyPost_ret (v := .tuple #[v, .nilIface]) (by simp [results, go_sem]) rfl ⟨rfl, rfl⟩

set_option maxRecDepth 100000 in
theorem max_Z (b : Nat) (p : Value) (w : World) (hb : w.heap[b]? = some mapZ) : Calls Tryd.prog 49 #[p, .map (some b)] w (MxEnd none w) := by
  have l1 := lkZ_agg0 b w hb
  clear hb
  go_enter Tryd.func49, Tryd.ntmps49
  go_wp2
  exact bodyPost_ret (v := .tuple #[.nilIface, .nilIface]) (by simp [results, go_sem]) rfl ⟨rfl, rfl⟩

theorem zzMax_end (s : Option Value) (b : Nat) (p : Value) (w : World) (H : Hid (Calls Tryd.prog 49 #[p, .map (some b)] w (MxEnd s w))) : Calls Tryd.prog 36 #[p, .map (some b)] w (MxEnd s w) := by
  go_enter Tryd.func36, Tryd.ntmps36
  go_wp2_with (go_at_call 49; refine (H.out).mono ?_; rintro e w1 ⟨rfl, rfl⟩)
  exact bodyPost_ret (v := .tuple #[s.getD .nilIface, .nilIface]) (by simp [results, go_sem]) rfl ⟨rfl, rfl⟩

theorem zzMax_A (s : Option Value) (b : Nat) (p : Value) (w : World) (hb : w.heap[b]? = some (mapA s)) : Calls Tryd.prog 36 #[p, .map (some b)] w (MxEnd s w) := zzMax_end s b p w (max_A s b p w hb)
theorem zzMax_Z (b : Nat) (p : Value) (w : World) (hb : w.heap[b]? = some mapZ) : Calls Tryd.prog 36 #[p, .map (some b)] w (MxEnd none w) := zzMax_end none b p w (max_Z b p w hb)

end Go.Proofs.YtiijcmdfbgoafaaDoor
