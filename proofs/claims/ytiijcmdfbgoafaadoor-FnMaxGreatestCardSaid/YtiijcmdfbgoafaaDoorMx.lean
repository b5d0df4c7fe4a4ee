/-
  builtinMax, and the door to it. PRINTED BY wip/tpl/gen_mx.py.
-/
import Derived.Test.YtiijcmdfbgoafaaDoorLc0
import Derived.Test.YtiijcmdfbgoafaaDoorCol
namespace Go.Proofs.YtiijcmdfbgoafaaDoor
open Go.RowKit
set_option linter.unusedVariables false

/-- A value that a maximum takes. -/
def SV.agg : SV → Bool
  | .int _ _ | .f32 _ | .f64 _ | .str _ => true
  | _ => false
/-- What the program has for a value without memory of its own. -/
def repV : SV → Value
  | .bool b => .iface 4 (.bool b)
  | .int k n => .iface (kindT k) (.int k n)
  | .f32 x => .iface 37 (.float .f32 x)
  | .f64 x => .iface 28 (.float .f64 x)
  | .str s => .iface 9 (.string s)
  | _ => .nilIface

def MxPost (w : World) (b : Nat) (s : Option Value) (e : Ending) (w' : World) : Prop := e = .returned (.tuple #[.nilIface, .nilIface]) ∧ Below b w w' ∧ w'.heap[b]? = some (mapM s)

set_option maxRecDepth 100000 in
theorem max_nil (s : Option Value) (b a c : Nat) (w : World) (hb : w.heap[b]? = some (mapM s)) (hc : w.cell? ⟨a, 0, none⟩ = some .nilIface) :
    Calls Tryd.prog 49 #[.slice (some ⟨a, 0, none⟩) 1 c, .map (some b)] w (MxPost w b s) := by
  have l1 := lkM_agg0 _ b w hb
  have l2 := lkM_fn _ b w hb
  have l3 := lkM_agg _ b w hb
  have l4 := lkM_f _ b w hb
  have HB := Lib.hid hb
  clear hb
  go_enter Tryd.func49, Tryd.ntmps49
  go_wp2
  exact bodyPost_ret (v := .tuple #[.nilIface, .nilIface]) (by simp [results, go_sem]) rfl ⟨rfl, Below.refl _ _, HB.out⟩

set_option maxRecDepth 100000 in
theorem max_f32_F (x : Nat) (b a c : Nat) (w : World) (hb : w.heap[b]? = some (mapM none)) (hc : w.cell? ⟨a, 0, none⟩ = some (.iface 37 (.float .f32 x))) :
    Calls Tryd.prog 49 #[.slice (some ⟨a, 0, none⟩) 1 c, .map (some b)] w (MxPost w b (some (.iface 37 (.float .f32 x)))) := by
  have l1 := lkM_agg0 _ b w hb
  have l2 := lkM_fn _ b w hb
  have l3 := lkM_agg _ b w hb
  have l4 := lkM_f _ b w hb
  simp only [Option.getD] at l4
  have l5 := upM_f none (.iface 37 (.float .f32 x)) b w hb
  have HB := Lib.hid (Array.getElem?_eq_some_iff.1 hb).1
  clear hb
  go_enter Tryd.func49, Tryd.ntmps49
  go_wp2
  exact bodyPost_ret (v := .tuple #[.nilIface, .nilIface]) (by simp [results, go_sem]) rfl ⟨rfl, Below.setMap (Below.refl _ _) (Nat.le_refl _) _, setMap_at HB.out _⟩

set_option maxRecDepth 100000 in
theorem max_f32_G (x : Nat) (t : TypeId) (u : Value) (d : Int) (hd : 0 < d) (b a c : Nat) (w : World) (hb : w.heap[b]? = some (mapM (some (.iface t u)))) (hc : w.cell? ⟨a, 0, none⟩ = some (.iface 37 (.float .f32 x)))
    (HC : Hid (∀ w', Below w.heap.size w w' → Calls Tryd.prog 58 #[.iface 37 (.float .f32 x), .iface t u] w' (ColP d w'))) :
    Calls Tryd.prog 49 #[.slice (some ⟨a, 0, none⟩) 1 c, .map (some b)] w (MxPost w b (some (.iface 37 (.float .f32 x)))) := by
  have l1 := lkM_agg0 _ b w hb
  have l2 := lkM_fn _ b w hb
  have l3 := lkM_agg _ b w hb
  have l4 := lkM_f _ b w hb
  simp only [Option.getD] at l4
  have HB := Lib.hid hb
  clear hb
  go_enter Tryd.func49, Tryd.ntmps49
  go_wp2_with (go_at_call 58; refine (HC.out _ (Below.refl _ _)).mono ?_; rintro e w1 ⟨rfl, hb1⟩; have l5 := upM_f (some (.iface t u)) (.iface 37 (.float .f32 x)) b w1 (block_below HB.out hb1))
  exact bodyPost_ret (v := .tuple #[.nilIface, .nilIface]) (by simp [results, go_sem]) rfl ⟨rfl, Below.setMap (hb1.mono (Nat.le_of_lt (Array.getElem?_eq_some_iff.1 HB.out).1)) (Nat.le_refl _) _, setMap_at (Array.getElem?_eq_some_iff.1 (block_below HB.out hb1)).1 _⟩

set_option maxRecDepth 100000 in
theorem max_f32_L (x : Nat) (t : TypeId) (u : Value) (d : Int) (hd : d ≤ 0) (b a c : Nat) (w : World) (hb : w.heap[b]? = some (mapM (some (.iface t u)))) (hc : w.cell? ⟨a, 0, none⟩ = some (.iface 37 (.float .f32 x)))
    (HC : Hid (∀ w', Below w.heap.size w w' → Calls Tryd.prog 58 #[.iface 37 (.float .f32 x), .iface t u] w' (ColP d w'))) :
    Calls Tryd.prog 49 #[.slice (some ⟨a, 0, none⟩) 1 c, .map (some b)] w (MxPost w b (some (.iface t u))) := by
  have l1 := lkM_agg0 _ b w hb
  have l2 := lkM_fn _ b w hb
  have l3 := lkM_agg _ b w hb
  have l4 := lkM_f _ b w hb
  simp only [Option.getD] at l4
  have HB := Lib.hid hb
  clear hb
  go_enter Tryd.func49, Tryd.ntmps49
  go_wp2_with (go_at_call 58; refine (HC.out _ (Below.refl _ _)).mono ?_; rintro e w1 ⟨rfl, hb1⟩)
  exact bodyPost_ret (v := .tuple #[.nilIface, .nilIface]) (by simp [results, go_sem]) rfl ⟨rfl, hb1.mono (Nat.le_of_lt (Array.getElem?_eq_some_iff.1 HB.out).1), block_below HB.out hb1⟩

set_option maxRecDepth 100000 in
theorem max_f64_F (x : Nat) (b a c : Nat) (w : World) (hb : w.heap[b]? = some (mapM none)) (hc : w.cell? ⟨a, 0, none⟩ = some (.iface 28 (.float .f64 x))) :
    Calls Tryd.prog 49 #[.slice (some ⟨a, 0, none⟩) 1 c, .map (some b)] w (MxPost w b (some (.iface 28 (.float .f64 x)))) := by
  have l1 := lkM_agg0 _ b w hb
  have l2 := lkM_fn _ b w hb
  have l3 := lkM_agg _ b w hb
  have l4 := lkM_f _ b w hb
  simp only [Option.getD] at l4
  have l5 := upM_f none (.iface 28 (.float .f64 x)) b w hb
  have HB := Lib.hid (Array.getElem?_eq_some_iff.1 hb).1
  clear hb
  go_enter Tryd.func49, Tryd.ntmps49
  go_wp2
  exact bodyPost_ret (v := .tuple #[.nilIface, .nilIface]) (by simp [results, go_sem]) rfl ⟨rfl, Below.setMap (Below.refl _ _) (Nat.le_refl _) _, setMap_at HB.out _⟩

set_option maxRecDepth 100000 in
theorem max_f64_G (x : Nat) (t : TypeId) (u : Value) (d : Int) (hd : 0 < d) (b a c : Nat) (w : World) (hb : w.heap[b]? = some (mapM (some (.iface t u)))) (hc : w.cell? ⟨a, 0, none⟩ = some (.iface 28 (.float .f64 x)))
    (HC : Hid (∀ w', Below w.heap.size w w' → Calls Tryd.prog 58 #[.iface 28 (.float .f64 x), .iface t u] w' (ColP d w'))) :
    Calls Tryd.prog 49 #[.slice (some ⟨a, 0, none⟩) 1 c, .map (some b)] w (MxPost w b (some (.iface 28 (.float .f64 x)))) := by
  have l1 := lkM_agg0 _ b w hb
  have l2 := lkM_fn _ b w hb
  have l3 := lkM_agg _ b w hb
  have l4 := lkM_f _ b w hb
  simp only [Option.getD] at l4
  have HB := Lib.hid hb
  clear hb
  go_enter Tryd.func49, Tryd.ntmps49
  go_wp2_with (go_at_call 58; refine (HC.out _ (Below.refl _ _)).mono ?_; rintro e w1 ⟨rfl, hb1⟩; have l5 := upM_f (some (.iface t u)) (.iface 28 (.float .f64 x)) b w1 (block_below HB.out hb1))
  exact bodyPost_ret (v := .tuple #[.nilIface, .nilIface]) (by simp [results, go_sem]) rfl ⟨rfl, Below.setMap (hb1.mono (Nat.le_of_lt (Array.getElem?_eq_some_iff.1 HB.out).1)) (Nat.le_refl _) _, setMap_at (Array.getElem?_eq_some_iff.1 (block_below HB.out hb1)).1 _⟩

set_option maxRecDepth 100000 in
theorem max_f64_L (x : Nat) (t : TypeId) (u : Value) (d : Int) (hd : d ≤ 0) (b a c : Nat) (w : World) (hb : w.heap[b]? = some (mapM (some (.iface t u)))) (hc : w.cell? ⟨a, 0, none⟩ = some (.iface 28 (.float .f64 x)))
    (HC : Hid (∀ w', Below w.heap.size w w' → Calls Tryd.prog 58 #[.iface 28 (.float .f64 x), .iface t u] w' (ColP d w'))) :
    Calls Tryd.prog 49 #[.slice (some ⟨a, 0, none⟩) 1 c, .map (some b)] w (MxPost w b (some (.iface t u))) := by
  have l1 := lkM_agg0 _ b w hb
  have l2 := lkM_fn _ b w hb
  have l3 := lkM_agg _ b w hb
  have l4 := lkM_f _ b w hb
  simp only [Option.getD] at l4
  have HB := Lib.hid hb
  clear hb
  go_enter Tryd.func49, Tryd.ntmps49
  go_wp2_with (go_at_call 58; refine (HC.out _ (Below.refl _ _)).mono ?_; rintro e w1 ⟨rfl, hb1⟩)
  exact bodyPost_ret (v := .tuple #[.nilIface, .nilIface]) (by simp [results, go_sem]) rfl ⟨rfl, hb1.mono (Nat.le_of_lt (Array.getElem?_eq_some_iff.1 HB.out).1), block_below HB.out hb1⟩

set_option maxRecDepth 100000 in
theorem max_str_F (x : ByteArray) (b a c : Nat) (w : World) (hb : w.heap[b]? = some (mapM none)) (hc : w.cell? ⟨a, 0, none⟩ = some (.iface 9 (.string x))) :
    Calls Tryd.prog 49 #[.slice (some ⟨a, 0, none⟩) 1 c, .map (some b)] w (MxPost w b (some (.iface 9 (.string x)))) := by
  have l1 := lkM_agg0 _ b w hb
  have l2 := lkM_fn _ b w hb
  have l3 := lkM_agg _ b w hb
  have l4 := lkM_f _ b w hb
  simp only [Option.getD] at l4
  have l5 := upM_f none (.iface 9 (.string x)) b w hb
  have HB := Lib.hid (Array.getElem?_eq_some_iff.1 hb).1
  clear hb
  go_enter Tryd.func49, Tryd.ntmps49
  go_wp2
  exact bodyPost_ret (v := .tuple #[.nilIface, .nilIface]) (by simp [results, go_sem]) rfl ⟨rfl, Below.setMap (Below.refl _ _) (Nat.le_refl _) _, setMap_at HB.out _⟩

set_option maxRecDepth 100000 in
theorem max_str_G (x : ByteArray) (t : TypeId) (u : Value) (d : Int) (hd : 0 < d) (b a c : Nat) (w : World) (hb : w.heap[b]? = some (mapM (some (.iface t u)))) (hc : w.cell? ⟨a, 0, none⟩ = some (.iface 9 (.string x)))
    (HC : Hid (∀ w', Below w.heap.size w w' → Calls Tryd.prog 58 #[.iface 9 (.string x), .iface t u] w' (ColP d w'))) :
    Calls Tryd.prog 49 #[.slice (some ⟨a, 0, none⟩) 1 c, .map (some b)] w (MxPost w b (some (.iface 9 (.string x)))) := by
  have l1 := lkM_agg0 _ b w hb
  have l2 := lkM_fn _ b w hb
  have l3 := lkM_agg _ b w hb
  have l4 := lkM_f _ b w hb
  simp only [Option.getD] at l4
  have HB := Lib.hid hb
  clear hb
  go_enter Tryd.func49, Tryd.ntmps49
  go_wp2_with (go_at_call 58; refine (HC.out _ (Below.refl _ _)).mono ?_; rintro e w1 ⟨rfl, hb1⟩; have l5 := upM_f (some (.iface t u)) (.iface 9 (.string x)) b w1 (block_below HB.out hb1))
  exact bodyPost_ret (v := .tuple #[.nilIface, .nilIface]) (by simp [results, go_sem]) rfl ⟨rfl, Below.setMap (hb1.mono (Nat.le_of_lt (Array.getElem?_eq_some_iff.1 HB.out).1)) (Nat.le_refl _) _, setMap_at (Array.getElem?_eq_some_iff.1 (block_below HB.out hb1)).1 _⟩

set_option maxRecDepth 100000 in
theorem max_str_L (x : ByteArray) (t : TypeId) (u : Value) (d : Int) (hd : d ≤ 0) (b a c : Nat) (w : World) (hb : w.heap[b]? = some (mapM (some (.iface t u)))) (hc : w.cell? ⟨a, 0, none⟩ = some (.iface 9 (.string x)))
    (HC : Hid (∀ w', Below w.heap.size w w' → Calls Tryd.prog 58 #[.iface 9 (.string x), .iface t u] w' (ColP d w'))) :
    Calls Tryd.prog 49 #[.slice (some ⟨a, 0, none⟩) 1 c, .map (some b)] w (MxPost w b (some (.iface t u))) := by
  have l1 := lkM_agg0 _ b w hb
  have l2 := lkM_fn _ b w hb
  have l3 := lkM_agg _ b w hb
  have l4 := lkM_f _ b w hb
  simp only [Option.getD] at l4
  have HB := Lib.hid hb
  clear hb
  go_enter Tryd.func49, Tryd.ntmps49
  go_wp2_with (go_at_call 58; refine (HC.out _ (Below.refl _ _)).mono ?_; rintro e w1 ⟨rfl, hb1⟩)
  exact bodyPost_ret (v := .tuple #[.nilIface, .nilIface]) (by simp [results, go_sem]) rfl ⟨rfl, hb1.mono (Nat.le_of_lt (Array.getElem?_eq_some_iff.1 HB.out).1), block_below HB.out hb1⟩

set_option maxRecDepth 100000 in
theorem max_i8_F (x : Int) (b a c : Nat) (w : World) (hb : w.heap[b]? = some (mapM none)) (hc : w.cell? ⟨a, 0, none⟩ = some (.iface 74 (.int .i8 x))) :
    Calls Tryd.prog 49 #[.slice (some ⟨a, 0, none⟩) 1 c, .map (some b)] w (MxPost w b (some (.iface 74 (.int .i8 x)))) := by
  have l1 := lkM_agg0 _ b w hb
  have l2 := lkM_fn _ b w hb
  have l3 := lkM_agg _ b w hb
  have l4 := lkM_f _ b w hb
  simp only [Option.getD] at l4
  have l5 := upM_f none (.iface 74 (.int .i8 x)) b w hb
  have HB := Lib.hid (Array.getElem?_eq_some_iff.1 hb).1
  clear hb
  go_enter Tryd.func49, Tryd.ntmps49
  go_wp2
  exact bodyPost_ret (v := .tuple #[.nilIface, .nilIface]) (by simp [results, go_sem]) rfl ⟨rfl, Below.setMap (Below.refl _ _) (Nat.le_refl _) _, setMap_at HB.out _⟩

set_option maxRecDepth 100000 in
theorem max_i8_G (x : Int) (t : TypeId) (u : Value) (d : Int) (hd : 0 < d) (b a c : Nat) (w : World) (hb : w.heap[b]? = some (mapM (some (.iface t u)))) (hc : w.cell? ⟨a, 0, none⟩ = some (.iface 74 (.int .i8 x)))
    (HC : Hid (∀ w', Below w.heap.size w w' → Calls Tryd.prog 58 #[.iface 74 (.int .i8 x), .iface t u] w' (ColP d w'))) :
    Calls Tryd.prog 49 #[.slice (some ⟨a, 0, none⟩) 1 c, .map (some b)] w (MxPost w b (some (.iface 74 (.int .i8 x)))) := by
  have l1 := lkM_agg0 _ b w hb
  have l2 := lkM_fn _ b w hb
  have l3 := lkM_agg _ b w hb
  have l4 := lkM_f _ b w hb
  simp only [Option.getD] at l4
  have HB := Lib.hid hb
  clear hb
  go_enter Tryd.func49, Tryd.ntmps49
  go_wp2_with (go_at_call 58; refine (HC.out _ (Below.refl _ _)).mono ?_; rintro e w1 ⟨rfl, hb1⟩; have l5 := upM_f (some (.iface t u)) (.iface 74 (.int .i8 x)) b w1 (block_below HB.out hb1))
  exact bodyPost_ret (v := .tuple #[.nilIface, .nilIface]) (by simp [results, go_sem]) rfl ⟨rfl, Below.setMap (hb1.mono (Nat.le_of_lt (Array.getElem?_eq_some_iff.1 HB.out).1)) (Nat.le_refl _) _, setMap_at (Array.getElem?_eq_some_iff.1 (block_below HB.out hb1)).1 _⟩

set_option maxRecDepth 100000 in
theorem max_i8_L (x : Int) (t : TypeId) (u : Value) (d : Int) (hd : d ≤ 0) (b a c : Nat) (w : World) (hb : w.heap[b]? = some (mapM (some (.iface t u)))) (hc : w.cell? ⟨a, 0, none⟩ = some (.iface 74 (.int .i8 x)))
    (HC : Hid (∀ w', Below w.heap.size w w' → Calls Tryd.prog 58 #[.iface 74 (.int .i8 x), .iface t u] w' (ColP d w'))) :
    Calls Tryd.prog 49 #[.slice (some ⟨a, 0, none⟩) 1 c, .map (some b)] w (MxPost w b (some (.iface t u))) := by
  have l1 := lkM_agg0 _ b w hb
  have l2 := lkM_fn _ b w hb
  have l3 := lkM_agg _ b w hb
  have l4 := lkM_f _ b w hb
  simp only [Option.getD] at l4
  have HB := Lib.hid hb
  clear hb
  go_enter Tryd.func49, Tryd.ntmps49
  go_wp2_with (go_at_call 58; refine (HC.out _ (Below.refl _ _)).mono ?_; rintro e w1 ⟨rfl, hb1⟩)
  exact bodyPost_ret (v := .tuple #[.nilIface, .nilIface]) (by simp [results, go_sem]) rfl ⟨rfl, hb1.mono (Nat.le_of_lt (Array.getElem?_eq_some_iff.1 HB.out).1), block_below HB.out hb1⟩

set_option maxRecDepth 100000 in
theorem max_i16_F (x : Int) (b a c : Nat) (w : World) (hb : w.heap[b]? = some (mapM none)) (hc : w.cell? ⟨a, 0, none⟩ = some (.iface 75 (.int .i16 x))) :
    Calls Tryd.prog 49 #[.slice (some ⟨a, 0, none⟩) 1 c, .map (some b)] w (MxPost w b (some (.iface 75 (.int .i16 x)))) := by
  have l1 := lkM_agg0 _ b w hb
  have l2 := lkM_fn _ b w hb
  have l3 := lkM_agg _ b w hb
  have l4 := lkM_f _ b w hb
  simp only [Option.getD] at l4
  have l5 := upM_f none (.iface 75 (.int .i16 x)) b w hb
  have HB := Lib.hid (Array.getElem?_eq_some_iff.1 hb).1
  clear hb
  go_enter Tryd.func49, Tryd.ntmps49
  go_wp2
  exact bodyPost_ret (v := .tuple #[.nilIface, .nilIface]) (by simp [results, go_sem]) rfl ⟨rfl, Below.setMap (Below.refl _ _) (Nat.le_refl _) _, setMap_at HB.out _⟩

set_option maxRecDepth 100000 in
theorem max_i16_G (x : Int) (t : TypeId) (u : Value) (d : Int) (hd : 0 < d) (b a c : Nat) (w : World) (hb : w.heap[b]? = some (mapM (some (.iface t u)))) (hc : w.cell? ⟨a, 0, none⟩ = some (.iface 75 (.int .i16 x)))
    (HC : Hid (∀ w', Below w.heap.size w w' → Calls Tryd.prog 58 #[.iface 75 (.int .i16 x), .iface t u] w' (ColP d w'))) :
    Calls Tryd.prog 49 #[.slice (some ⟨a, 0, none⟩) 1 c, .map (some b)] w (MxPost w b (some (.iface 75 (.int .i16 x)))) := by
  have l1 := lkM_agg0 _ b w hb
  have l2 := lkM_fn _ b w hb
  have l3 := lkM_agg _ b w hb
  have l4 := lkM_f _ b w hb
  simp only [Option.getD] at l4
  have HB := Lib.hid hb
  clear hb
  go_enter Tryd.func49, Tryd.ntmps49
  go_wp2_with (go_at_call 58; refine (HC.out _ (Below.refl _ _)).mono ?_; rintro e w1 ⟨rfl, hb1⟩; have l5 := upM_f (some (.iface t u)) (.iface 75 (.int .i16 x)) b w1 (block_below HB.out hb1))
  exact bodyPost_ret (v := .tuple #[.nilIface, .nilIface]) (by simp [results, go_sem]) rfl ⟨rfl, Below.setMap (hb1.mono (Nat.le_of_lt (Array.getElem?_eq_some_iff.1 HB.out).1)) (Nat.le_refl _) _, setMap_at (Array.getElem?_eq_some_iff.1 (block_below HB.out hb1)).1 _⟩

set_option maxRecDepth 100000 in
theorem max_i16_L (x : Int) (t : TypeId) (u : Value) (d : Int) (hd : d ≤ 0) (b a c : Nat) (w : World) (hb : w.heap[b]? = some (mapM (some (.iface t u)))) (hc : w.cell? ⟨a, 0, none⟩ = some (.iface 75 (.int .i16 x)))
    (HC : Hid (∀ w', Below w.heap.size w w' → Calls Tryd.prog 58 #[.iface 75 (.int .i16 x), .iface t u] w' (ColP d w'))) :
    Calls Tryd.prog 49 #[.slice (some ⟨a, 0, none⟩) 1 c, .map (some b)] w (MxPost w b (some (.iface t u))) := by
  have l1 := lkM_agg0 _ b w hb
  have l2 := lkM_fn _ b w hb
  have l3 := lkM_agg _ b w hb
  have l4 := lkM_f _ b w hb
  simp only [Option.getD] at l4
  have HB := Lib.hid hb
  clear hb
  go_enter Tryd.func49, Tryd.ntmps49
  go_wp2_with (go_at_call 58; refine (HC.out _ (Below.refl _ _)).mono ?_; rintro e w1 ⟨rfl, hb1⟩)
  exact bodyPost_ret (v := .tuple #[.nilIface, .nilIface]) (by simp [results, go_sem]) rfl ⟨rfl, hb1.mono (Nat.le_of_lt (Array.getElem?_eq_some_iff.1 HB.out).1), block_below HB.out hb1⟩

set_option maxRecDepth 100000 in
theorem max_i32_F (x : Int) (b a c : Nat) (w : World) (hb : w.heap[b]? = some (mapM none)) (hc : w.cell? ⟨a, 0, none⟩ = some (.iface 21 (.int .i32 x))) :
    Calls Tryd.prog 49 #[.slice (some ⟨a, 0, none⟩) 1 c, .map (some b)] w (MxPost w b (some (.iface 21 (.int .i32 x)))) := by
  have l1 := lkM_agg0 _ b w hb
  have l2 := lkM_fn _ b w hb
  have l3 := lkM_agg _ b w hb
  have l4 := lkM_f _ b w hb
  simp only [Option.getD] at l4
  have l5 := upM_f none (.iface 21 (.int .i32 x)) b w hb
  have HB := Lib.hid (Array.getElem?_eq_some_iff.1 hb).1
  clear hb
  go_enter Tryd.func49, Tryd.ntmps49
  go_wp2
  exact bodyPost_ret (v := .tuple #[.nilIface, .nilIface]) (by simp [results, go_sem]) rfl ⟨rfl, Below.setMap (Below.refl _ _) (Nat.le_refl _) _, setMap_at HB.out _⟩

set_option maxRecDepth 100000 in
theorem max_i32_G (x : Int) (t : TypeId) (u : Value) (d : Int) (hd : 0 < d) (b a c : Nat) (w : World) (hb : w.heap[b]? = some (mapM (some (.iface t u)))) (hc : w.cell? ⟨a, 0, none⟩ = some (.iface 21 (.int .i32 x)))
    (HC : Hid (∀ w', Below w.heap.size w w' → Calls Tryd.prog 58 #[.iface 21 (.int .i32 x), .iface t u] w' (ColP d w'))) :
    Calls Tryd.prog 49 #[.slice (some ⟨a, 0, none⟩) 1 c, .map (some b)] w (MxPost w b (some (.iface 21 (.int .i32 x)))) := by
  have l1 := lkM_agg0 _ b w hb
  have l2 := lkM_fn _ b w hb
  have l3 := lkM_agg _ b w hb
  have l4 := lkM_f _ b w hb
  simp only [Option.getD] at l4
  have HB := Lib.hid hb
  clear hb
  go_enter Tryd.func49, Tryd.ntmps49
  go_wp2_with (go_at_call 58; refine (HC.out _ (Below.refl _ _)).mono ?_; rintro e w1 ⟨rfl, hb1⟩; have l5 := upM_f (some (.iface t u)) (.iface 21 (.int .i32 x)) b w1 (block_below HB.out hb1))
  exact bodyPost_ret (v := .tuple #[.nilIface, .nilIface]) (by simp [results, go_sem]) rfl ⟨rfl, Below.setMap (hb1.mono (Nat.le_of_lt (Array.getElem?_eq_some_iff.1 HB.out).1)) (Nat.le_refl _) _, setMap_at (Array.getElem?_eq_some_iff.1 (block_below HB.out hb1)).1 _⟩

set_option maxRecDepth 100000 in
theorem max_i32_L (x : Int) (t : TypeId) (u : Value) (d : Int) (hd : d ≤ 0) (b a c : Nat) (w : World) (hb : w.heap[b]? = some (mapM (some (.iface t u)))) (hc : w.cell? ⟨a, 0, none⟩ = some (.iface 21 (.int .i32 x)))
    (HC : Hid (∀ w', Below w.heap.size w w' → Calls Tryd.prog 58 #[.iface 21 (.int .i32 x), .iface t u] w' (ColP d w'))) :
    Calls Tryd.prog 49 #[.slice (some ⟨a, 0, none⟩) 1 c, .map (some b)] w (MxPost w b (some (.iface t u))) := by
  have l1 := lkM_agg0 _ b w hb
  have l2 := lkM_fn _ b w hb
  have l3 := lkM_agg _ b w hb
  have l4 := lkM_f _ b w hb
  simp only [Option.getD] at l4
  have HB := Lib.hid hb
  clear hb
  go_enter Tryd.func49, Tryd.ntmps49
  go_wp2_with (go_at_call 58; refine (HC.out _ (Below.refl _ _)).mono ?_; rintro e w1 ⟨rfl, hb1⟩)
  exact bodyPost_ret (v := .tuple #[.nilIface, .nilIface]) (by simp [results, go_sem]) rfl ⟨rfl, hb1.mono (Nat.le_of_lt (Array.getElem?_eq_some_iff.1 HB.out).1), block_below HB.out hb1⟩

set_option maxRecDepth 100000 in
theorem max_i64_F (x : Int) (b a c : Nat) (w : World) (hb : w.heap[b]? = some (mapM none)) (hc : w.cell? ⟨a, 0, none⟩ = some (.iface 2 (.int .i64 x))) :
    Calls Tryd.prog 49 #[.slice (some ⟨a, 0, none⟩) 1 c, .map (some b)] w (MxPost w b (some (.iface 2 (.int .i64 x)))) := by
  have l1 := lkM_agg0 _ b w hb
  have l2 := lkM_fn _ b w hb
  have l3 := lkM_agg _ b w hb
  have l4 := lkM_f _ b w hb
  simp only [Option.getD] at l4
  have l5 := upM_f none (.iface 2 (.int .i64 x)) b w hb
  have HB := Lib.hid (Array.getElem?_eq_some_iff.1 hb).1
  clear hb
  go_enter Tryd.func49, Tryd.ntmps49
  go_wp2
  exact bodyPost_ret (v := .tuple #[.nilIface, .nilIface]) (by simp [results, go_sem]) rfl ⟨rfl, Below.setMap (Below.refl _ _) (Nat.le_refl _) _, setMap_at HB.out _⟩

set_option maxRecDepth 100000 in
theorem max_i64_G (x : Int) (t : TypeId) (u : Value) (d : Int) (hd : 0 < d) (b a c : Nat) (w : World) (hb : w.heap[b]? = some (mapM (some (.iface t u)))) (hc : w.cell? ⟨a, 0, none⟩ = some (.iface 2 (.int .i64 x)))
    (HC : Hid (∀ w', Below w.heap.size w w' → Calls Tryd.prog 58 #[.iface 2 (.int .i64 x), .iface t u] w' (ColP d w'))) :
    Calls Tryd.prog 49 #[.slice (some ⟨a, 0, none⟩) 1 c, .map (some b)] w (MxPost w b (some (.iface 2 (.int .i64 x)))) := by
  have l1 := lkM_agg0 _ b w hb
  have l2 := lkM_fn _ b w hb
  have l3 := lkM_agg _ b w hb
  have l4 := lkM_f _ b w hb
  simp only [Option.getD] at l4
  have HB := Lib.hid hb
  clear hb
  go_enter Tryd.func49, Tryd.ntmps49
  go_wp2_with (go_at_call 58; refine (HC.out _ (Below.refl _ _)).mono ?_; rintro e w1 ⟨rfl, hb1⟩; have l5 := upM_f (some (.iface t u)) (.iface 2 (.int .i64 x)) b w1 (block_below HB.out hb1))
  exact bodyPost_ret (v := .tuple #[.nilIface, .nilIface]) (by simp [results, go_sem]) rfl ⟨rfl, Below.setMap (hb1.mono (Nat.le_of_lt (Array.getElem?_eq_some_iff.1 HB.out).1)) (Nat.le_refl _) _, setMap_at (Array.getElem?_eq_some_iff.1 (block_below HB.out hb1)).1 _⟩

set_option maxRecDepth 100000 in
theorem max_i64_L (x : Int) (t : TypeId) (u : Value) (d : Int) (hd : d ≤ 0) (b a c : Nat) (w : World) (hb : w.heap[b]? = some (mapM (some (.iface t u)))) (hc : w.cell? ⟨a, 0, none⟩ = some (.iface 2 (.int .i64 x)))
    (HC : Hid (∀ w', Below w.heap.size w w' → Calls Tryd.prog 58 #[.iface 2 (.int .i64 x), .iface t u] w' (ColP d w'))) :
    Calls Tryd.prog 49 #[.slice (some ⟨a, 0, none⟩) 1 c, .map (some b)] w (MxPost w b (some (.iface t u))) := by
  have l1 := lkM_agg0 _ b w hb
  have l2 := lkM_fn _ b w hb
  have l3 := lkM_agg _ b w hb
  have l4 := lkM_f _ b w hb
  simp only [Option.getD] at l4
  have HB := Lib.hid hb
  clear hb
  go_enter Tryd.func49, Tryd.ntmps49
  go_wp2_with (go_at_call 58; refine (HC.out _ (Below.refl _ _)).mono ?_; rintro e w1 ⟨rfl, hb1⟩)
  exact bodyPost_ret (v := .tuple #[.nilIface, .nilIface]) (by simp [results, go_sem]) rfl ⟨rfl, hb1.mono (Nat.le_of_lt (Array.getElem?_eq_some_iff.1 HB.out).1), block_below HB.out hb1⟩

set_option maxRecDepth 100000 in
theorem max_u8_F (x : Int) (b a c : Nat) (w : World) (hb : w.heap[b]? = some (mapM none)) (hc : w.cell? ⟨a, 0, none⟩ = some (.iface 5 (.int .u8 x))) :
    Calls Tryd.prog 49 #[.slice (some ⟨a, 0, none⟩) 1 c, .map (some b)] w (MxPost w b (some (.iface 5 (.int .u8 x)))) := by
  have l1 := lkM_agg0 _ b w hb
  have l2 := lkM_fn _ b w hb
  have l3 := lkM_agg _ b w hb
  have l4 := lkM_f _ b w hb
  simp only [Option.getD] at l4
  have l5 := upM_f none (.iface 5 (.int .u8 x)) b w hb
  have HB := Lib.hid (Array.getElem?_eq_some_iff.1 hb).1
  clear hb
  go_enter Tryd.func49, Tryd.ntmps49
  go_wp2
  exact bodyPost_ret (v := .tuple #[.nilIface, .nilIface]) (by simp [results, go_sem]) rfl ⟨rfl, Below.setMap (Below.refl _ _) (Nat.le_refl _) _, setMap_at HB.out _⟩

set_option maxRecDepth 100000 in
theorem max_u8_G (x : Int) (t : TypeId) (u : Value) (d : Int) (hd : 0 < d) (b a c : Nat) (w : World) (hb : w.heap[b]? = some (mapM (some (.iface t u)))) (hc : w.cell? ⟨a, 0, none⟩ = some (.iface 5 (.int .u8 x)))
    (HC : Hid (∀ w', Below w.heap.size w w' → Calls Tryd.prog 58 #[.iface 5 (.int .u8 x), .iface t u] w' (ColP d w'))) :
    Calls Tryd.prog 49 #[.slice (some ⟨a, 0, none⟩) 1 c, .map (some b)] w (MxPost w b (some (.iface 5 (.int .u8 x)))) := by
  have l1 := lkM_agg0 _ b w hb
  have l2 := lkM_fn _ b w hb
  have l3 := lkM_agg _ b w hb
  have l4 := lkM_f _ b w hb
  simp only [Option.getD] at l4
  have HB := Lib.hid hb
  clear hb
  go_enter Tryd.func49, Tryd.ntmps49
  go_wp2_with (go_at_call 58; refine (HC.out _ (Below.refl _ _)).mono ?_; rintro e w1 ⟨rfl, hb1⟩; have l5 := upM_f (some (.iface t u)) (.iface 5 (.int .u8 x)) b w1 (block_below HB.out hb1))
  exact bodyPost_ret (v := .tuple #[.nilIface, .nilIface]) (by simp [results, go_sem]) rfl ⟨rfl, Below.setMap (hb1.mono (Nat.le_of_lt (Array.getElem?_eq_some_iff.1 HB.out).1)) (Nat.le_refl _) _, setMap_at (Array.getElem?_eq_some_iff.1 (block_below HB.out hb1)).1 _⟩

set_option maxRecDepth 100000 in
theorem max_u8_L (x : Int) (t : TypeId) (u : Value) (d : Int) (hd : d ≤ 0) (b a c : Nat) (w : World) (hb : w.heap[b]? = some (mapM (some (.iface t u)))) (hc : w.cell? ⟨a, 0, none⟩ = some (.iface 5 (.int .u8 x)))
    (HC : Hid (∀ w', Below w.heap.size w w' → Calls Tryd.prog 58 #[.iface 5 (.int .u8 x), .iface t u] w' (ColP d w'))) :
    Calls Tryd.prog 49 #[.slice (some ⟨a, 0, none⟩) 1 c, .map (some b)] w (MxPost w b (some (.iface t u))) := by
  have l1 := lkM_agg0 _ b w hb
  have l2 := lkM_fn _ b w hb
  have l3 := lkM_agg _ b w hb
  have l4 := lkM_f _ b w hb
  simp only [Option.getD] at l4
  have HB := Lib.hid hb
  clear hb
  go_enter Tryd.func49, Tryd.ntmps49
  go_wp2_with (go_at_call 58; refine (HC.out _ (Below.refl _ _)).mono ?_; rintro e w1 ⟨rfl, hb1⟩)
  exact bodyPost_ret (v := .tuple #[.nilIface, .nilIface]) (by simp [results, go_sem]) rfl ⟨rfl, hb1.mono (Nat.le_of_lt (Array.getElem?_eq_some_iff.1 HB.out).1), block_below HB.out hb1⟩

set_option maxRecDepth 100000 in
theorem max_u16_F (x : Int) (b a c : Nat) (w : World) (hb : w.heap[b]? = some (mapM none)) (hc : w.cell? ⟨a, 0, none⟩ = some (.iface 76 (.int .u16 x))) :
    Calls Tryd.prog 49 #[.slice (some ⟨a, 0, none⟩) 1 c, .map (some b)] w (MxPost w b (some (.iface 76 (.int .u16 x)))) := by
  have l1 := lkM_agg0 _ b w hb
  have l2 := lkM_fn _ b w hb
  have l3 := lkM_agg _ b w hb
  have l4 := lkM_f _ b w hb
  simp only [Option.getD] at l4
  have l5 := upM_f none (.iface 76 (.int .u16 x)) b w hb
  have HB := Lib.hid (Array.getElem?_eq_some_iff.1 hb).1
  clear hb
  go_enter Tryd.func49, Tryd.ntmps49
  go_wp2
  exact bodyPost_ret (v := .tuple #[.nilIface, .nilIface]) (by simp [results, go_sem]) rfl ⟨rfl, Below.setMap (Below.refl _ _) (Nat.le_refl _) _, setMap_at HB.out _⟩

set_option maxRecDepth 100000 in
theorem max_u16_G (x : Int) (t : TypeId) (u : Value) (d : Int) (hd : 0 < d) (b a c : Nat) (w : World) (hb : w.heap[b]? = some (mapM (some (.iface t u)))) (hc : w.cell? ⟨a, 0, none⟩ = some (.iface 76 (.int .u16 x)))
    (HC : Hid (∀ w', Below w.heap.size w w' → Calls Tryd.prog 58 #[.iface 76 (.int .u16 x), .iface t u] w' (ColP d w'))) :
    Calls Tryd.prog 49 #[.slice (some ⟨a, 0, none⟩) 1 c, .map (some b)] w (MxPost w b (some (.iface 76 (.int .u16 x)))) := by
  have l1 := lkM_agg0 _ b w hb
  have l2 := lkM_fn _ b w hb
  have l3 := lkM_agg _ b w hb
  have l4 := lkM_f _ b w hb
  simp only [Option.getD] at l4
  have HB := Lib.hid hb
  clear hb
  go_enter Tryd.func49, Tryd.ntmps49
  go_wp2_with (go_at_call 58; refine (HC.out _ (Below.refl _ _)).mono ?_; rintro e w1 ⟨rfl, hb1⟩; have l5 := upM_f (some (.iface t u)) (.iface 76 (.int .u16 x)) b w1 (block_below HB.out hb1))
  exact bodyPost_ret (v := .tuple #[.nilIface, .nilIface]) (by simp [results, go_sem]) rfl ⟨rfl, Below.setMap (hb1.mono (Nat.le_of_lt (Array.getElem?_eq_some_iff.1 HB.out).1)) (Nat.le_refl _) _, setMap_at (Array.getElem?_eq_some_iff.1 (block_below HB.out hb1)).1 _⟩

set_option maxRecDepth 100000 in
theorem max_u16_L (x : Int) (t : TypeId) (u : Value) (d : Int) (hd : d ≤ 0) (b a c : Nat) (w : World) (hb : w.heap[b]? = some (mapM (some (.iface t u)))) (hc : w.cell? ⟨a, 0, none⟩ = some (.iface 76 (.int .u16 x)))
    (HC : Hid (∀ w', Below w.heap.size w w' → Calls Tryd.prog 58 #[.iface 76 (.int .u16 x), .iface t u] w' (ColP d w'))) :
    Calls Tryd.prog 49 #[.slice (some ⟨a, 0, none⟩) 1 c, .map (some b)] w (MxPost w b (some (.iface t u))) := by
  have l1 := lkM_agg0 _ b w hb
  have l2 := lkM_fn _ b w hb
  have l3 := lkM_agg _ b w hb
  have l4 := lkM_f _ b w hb
  simp only [Option.getD] at l4
  have HB := Lib.hid hb
  clear hb
  go_enter Tryd.func49, Tryd.ntmps49
  go_wp2_with (go_at_call 58; refine (HC.out _ (Below.refl _ _)).mono ?_; rintro e w1 ⟨rfl, hb1⟩)
  exact bodyPost_ret (v := .tuple #[.nilIface, .nilIface]) (by simp [results, go_sem]) rfl ⟨rfl, hb1.mono (Nat.le_of_lt (Array.getElem?_eq_some_iff.1 HB.out).1), block_below HB.out hb1⟩

set_option maxRecDepth 100000 in
theorem max_u32_F (x : Int) (b a c : Nat) (w : World) (hb : w.heap[b]? = some (mapM none)) (hc : w.cell? ⟨a, 0, none⟩ = some (.iface 77 (.int .u32 x))) :
    Calls Tryd.prog 49 #[.slice (some ⟨a, 0, none⟩) 1 c, .map (some b)] w (MxPost w b (some (.iface 77 (.int .u32 x)))) := by
  have l1 := lkM_agg0 _ b w hb
  have l2 := lkM_fn _ b w hb
  have l3 := lkM_agg _ b w hb
  have l4 := lkM_f _ b w hb
  simp only [Option.getD] at l4
  have l5 := upM_f none (.iface 77 (.int .u32 x)) b w hb
  have HB := Lib.hid (Array.getElem?_eq_some_iff.1 hb).1
  clear hb
  go_enter Tryd.func49, Tryd.ntmps49
  go_wp2
  exact bodyPost_ret (v := .tuple #[.nilIface, .nilIface]) (by simp [results, go_sem]) rfl ⟨rfl, Below.setMap (Below.refl _ _) (Nat.le_refl _) _, setMap_at HB.out _⟩

set_option maxRecDepth 100000 in
theorem max_u32_G (x : Int) (t : TypeId) (u : Value) (d : Int) (hd : 0 < d) (b a c : Nat) (w : World) (hb : w.heap[b]? = some (mapM (some (.iface t u)))) (hc : w.cell? ⟨a, 0, none⟩ = some (.iface 77 (.int .u32 x)))
    (HC : Hid (∀ w', Below w.heap.size w w' → Calls Tryd.prog 58 #[.iface 77 (.int .u32 x), .iface t u] w' (ColP d w'))) :
    Calls Tryd.prog 49 #[.slice (some ⟨a, 0, none⟩) 1 c, .map (some b)] w (MxPost w b (some (.iface 77 (.int .u32 x)))) := by
  have l1 := lkM_agg0 _ b w hb
  have l2 := lkM_fn _ b w hb
  have l3 := lkM_agg _ b w hb
  have l4 := lkM_f _ b w hb
  simp only [Option.getD] at l4
  have HB := Lib.hid hb
  clear hb
  go_enter Tryd.func49, Tryd.ntmps49
  go_wp2_with (go_at_call 58; refine (HC.out _ (Below.refl _ _)).mono ?_; rintro e w1 ⟨rfl, hb1⟩; have l5 := upM_f (some (.iface t u)) (.iface 77 (.int .u32 x)) b w1 (block_below HB.out hb1))
  exact bodyPost_ret (v := .tuple #[.nilIface, .nilIface]) (by simp [results, go_sem]) rfl ⟨rfl, Below.setMap (hb1.mono (Nat.le_of_lt (Array.getElem?_eq_some_iff.1 HB.out).1)) (Nat.le_refl _) _, setMap_at (Array.getElem?_eq_some_iff.1 (block_below HB.out hb1)).1 _⟩

set_option maxRecDepth 100000 in
theorem max_u32_L (x : Int) (t : TypeId) (u : Value) (d : Int) (hd : d ≤ 0) (b a c : Nat) (w : World) (hb : w.heap[b]? = some (mapM (some (.iface t u)))) (hc : w.cell? ⟨a, 0, none⟩ = some (.iface 77 (.int .u32 x)))
    (HC : Hid (∀ w', Below w.heap.size w w' → Calls Tryd.prog 58 #[.iface 77 (.int .u32 x), .iface t u] w' (ColP d w'))) :
    Calls Tryd.prog 49 #[.slice (some ⟨a, 0, none⟩) 1 c, .map (some b)] w (MxPost w b (some (.iface t u))) := by
  have l1 := lkM_agg0 _ b w hb
  have l2 := lkM_fn _ b w hb
  have l3 := lkM_agg _ b w hb
  have l4 := lkM_f _ b w hb
  simp only [Option.getD] at l4
  have HB := Lib.hid hb
  clear hb
  go_enter Tryd.func49, Tryd.ntmps49
  go_wp2_with (go_at_call 58; refine (HC.out _ (Below.refl _ _)).mono ?_; rintro e w1 ⟨rfl, hb1⟩)
  exact bodyPost_ret (v := .tuple #[.nilIface, .nilIface]) (by simp [results, go_sem]) rfl ⟨rfl, hb1.mono (Nat.le_of_lt (Array.getElem?_eq_some_iff.1 HB.out).1), block_below HB.out hb1⟩

set_option maxRecDepth 100000 in
theorem max_u64_F (x : Int) (b a c : Nat) (w : World) (hb : w.heap[b]? = some (mapM none)) (hc : w.cell? ⟨a, 0, none⟩ = some (.iface 27 (.int .u64 x))) :
    Calls Tryd.prog 49 #[.slice (some ⟨a, 0, none⟩) 1 c, .map (some b)] w (MxPost w b (some (.iface 27 (.int .u64 x)))) := by
  have l1 := lkM_agg0 _ b w hb
  have l2 := lkM_fn _ b w hb
  have l3 := lkM_agg _ b w hb
  have l4 := lkM_f _ b w hb
  simp only [Option.getD] at l4
  have l5 := upM_f none (.iface 27 (.int .u64 x)) b w hb
  have HB := Lib.hid (Array.getElem?_eq_some_iff.1 hb).1
  clear hb
  go_enter Tryd.func49, Tryd.ntmps49
  go_wp2
  exact bodyPost_ret (v := .tuple #[.nilIface, .nilIface]) (by simp [results, go_sem]) rfl ⟨rfl, Below.setMap (Below.refl _ _) (Nat.le_refl _) _, setMap_at HB.out _⟩

set_option maxRecDepth 100000 in
theorem max_u64_G (x : Int) (t : TypeId) (u : Value) (d : Int) (hd : 0 < d) (b a c : Nat) (w : World) (hb : w.heap[b]? = some (mapM (some (.iface t u)))) (hc : w.cell? ⟨a, 0, none⟩ = some (.iface 27 (.int .u64 x)))
    (HC : Hid (∀ w', Below w.heap.size w w' → Calls Tryd.prog 58 #[.iface 27 (.int .u64 x), .iface t u] w' (ColP d w'))) :
    Calls Tryd.prog 49 #[.slice (some ⟨a, 0, none⟩) 1 c, .map (some b)] w (MxPost w b (some (.iface 27 (.int .u64 x)))) := by
  have l1 := lkM_agg0 _ b w hb
  have l2 := lkM_fn _ b w hb
  have l3 := lkM_agg _ b w hb
  have l4 := lkM_f _ b w hb
  simp only [Option.getD] at l4
  have HB := Lib.hid hb
  clear hb
  go_enter Tryd.func49, Tryd.ntmps49
  go_wp2_with (go_at_call 58; refine (HC.out _ (Below.refl _ _)).mono ?_; rintro e w1 ⟨rfl, hb1⟩; have l5 := upM_f (some (.iface t u)) (.iface 27 (.int .u64 x)) b w1 (block_below HB.out hb1))
  exact bodyPost_ret (v := .tuple #[.nilIface, .nilIface]) (by simp [results, go_sem]) rfl ⟨rfl, Below.setMap (hb1.mono (Nat.le_of_lt (Array.getElem?_eq_some_iff.1 HB.out).1)) (Nat.le_refl _) _, setMap_at (Array.getElem?_eq_some_iff.1 (block_below HB.out hb1)).1 _⟩

set_option maxRecDepth 100000 in
theorem max_u64_L (x : Int) (t : TypeId) (u : Value) (d : Int) (hd : d ≤ 0) (b a c : Nat) (w : World) (hb : w.heap[b]? = some (mapM (some (.iface t u)))) (hc : w.cell? ⟨a, 0, none⟩ = some (.iface 27 (.int .u64 x)))
    (HC : Hid (∀ w', Below w.heap.size w w' → Calls Tryd.prog 58 #[.iface 27 (.int .u64 x), .iface t u] w' (ColP d w'))) :
    Calls Tryd.prog 49 #[.slice (some ⟨a, 0, none⟩) 1 c, .map (some b)] w (MxPost w b (some (.iface t u))) := by
  have l1 := lkM_agg0 _ b w hb
  have l2 := lkM_fn _ b w hb
  have l3 := lkM_agg _ b w hb
  have l4 := lkM_f _ b w hb
  simp only [Option.getD] at l4
  have HB := Lib.hid hb
  clear hb
  go_enter Tryd.func49, Tryd.ntmps49
  go_wp2_with (go_at_call 58; refine (HC.out _ (Below.refl _ _)).mono ?_; rintro e w1 ⟨rfl, hb1⟩)
  exact bodyPost_ret (v := .tuple #[.nilIface, .nilIface]) (by simp [results, go_sem]) rfl ⟨rfl, hb1.mono (Nat.le_of_lt (Array.getElem?_eq_some_iff.1 HB.out).1), block_below HB.out hb1⟩

end Go.Proofs.YtiijcmdfbgoafaaDoor
