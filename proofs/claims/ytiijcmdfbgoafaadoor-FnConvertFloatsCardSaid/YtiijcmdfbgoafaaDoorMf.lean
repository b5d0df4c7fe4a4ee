/-
  math.Modf: two floats, whatever it is given. PRINTED BY wip/tpl/gen_cvt.py.
-/
import Derived.Test.YtiijcmdfbgoafaaDoorCvp
namespace Go.Proofs.YtiijcmdfbgoafaaDoor
open Go.RowKit

/-- A float64 cut to a whole number; of one that is no number what is drawn. -/
def truncV (W : World) (x : Nat) : Nat :=
  match FloatKind.f64.decode x with
  | .nan s t => if FloatKind.f64.format.quiet t = t then x else if (Question.extern "math.Floor,Ceil,Trunc,RoundToEven.signallingNaN kept" 2).cut (W.tape W.drawn (.extern "math.Floor,Ceil,Trunc,RoundToEven.signallingNaN kept" 2)) == 1 then x else FloatKind.f64.encode (.nan s (FloatKind.f64.format.quiet t))
  | d => FloatKind.f64.encode (d.integral .zero)
def truncN (x : Nat) : Nat :=
  match FloatKind.f64.decode x with
  | .nan _ t => if FloatKind.f64.format.quiet t = t then 0 else 1
  | _ => 0
theorem run_trunc0 (x : Nat) (W : World) : (callFunc 74 #[.float .f64 x]).run Tryd.prog W = ((Extern.MathFloor.toIntegral "math.archTrunc" .zero #[.float .f64 x]).run Tryd.prog W).andThen fun v w' => .ok (.value v) w' :=
  run_callFunc_extern Tryd.func74 (by kernel_rfl) (by kernel_rfl) (by kernel_rfl) (by kernel_rfl) _ W
theorem run_trunc1 (x : Nat) (W : World) : (Extern.MathFloor.toIntegral "math.archTrunc" .zero #[.float .f64 x]).run Tryd.prog W = .ok (.float .f64 (truncV W x)) (W.drewN (truncN x)) := by
  have e : Extern.MathFloor.toIntegral "math.archTrunc" .zero #[.float .f64 x] = (match FloatKind.f64.decode x with
    | .nan s t => (if FloatKind.f64.format.quiet t = t then (pure (.float .f64 x) : Sem Value) else do
      let kept ← choose (.extern "math.Floor,Ceil,Trunc,RoundToEven.signallingNaN kept" 2)
      pure (.float .f64 (if kept == 1 then x else FloatKind.f64.encode (.nan s (FloatKind.f64.format.quiet t)))))
    | d => pure (.float .f64 (FloatKind.f64.encode (d.integral .zero)))) := rfl
  rw [e]
  unfold truncV truncN
  cases FloatKind.f64.decode x with
  | nan s t =>
    by_cases h : FloatKind.f64.format.quiet t = t
    · simp only [if_pos h]; rfl
    · simp only [if_neg h]
      simp [Question.forced]
      rfl
  | infinity s => rfl
  | number s m p => rfl
theorem run_trunc (x : Nat) (W : World) : (callFunc 74 #[.float .f64 x]).run Tryd.prog W = .ok (.value (.float .f64 (truncV W x))) (W.drewN (truncN x)) := by
  rw [run_trunc0, run_trunc1]
  rfl

def subV (W : World) (x y : Nat) : Nat := match FloatKind.f64.format.sub x y with
  | some r => r
  | none => (Question.nanBits .f64 x y).cut (W.tape W.drawn (.nanBits .f64 x y))
def subN (x y : Nat) : Nat := match FloatKind.f64.format.sub x y with
  | some _ => 0
  | none => 1
theorem run_sub (x y : Nat) (W : World) : (binOp .sub 28 (.float .f64 x) (.float .f64 y)).run Tryd.prog W = .ok (.float .f64 (subV W x y)) (W.drewN (subN x y)) := by
  unfold subV subN
  cases h : FloatKind.f64.format.sub x y with
  | some r => simp [binOp, Op.floatArith, h]; rfl
  | none => simp [binOp, Op.floatArith, h, Question.forced]; rfl

def FlPost (w : World) (e : Ending) (w' : World) : Prop := ∃ y, e = .returned (.float .f64 y) ∧ Below w.heap.size w w'

set_option maxRecDepth 100000 in
set_option maxHeartbeats 1000000 in
theorem truncF_any (x : Nat) (w : World) : Calls Tryd.prog 69 #[.float .f64 x] w (FlPost w) := by
  have c1 := fun W => run_trunc x W
  go_enter Tryd.func69, Tryd.ntmps69
  go_wp2
  go_ret
  exact ⟨_, rfl, by repeat (first | exact Below.refl _ _ | exact (Below.refl _ _).alloc (Nat.le_refl _) _ | refine Below.drew ?_ | refine below_drewN ?_ _ | refine up_below ?_ (Nat.le_refl _) (by assumption))⟩

theorem run_fbits (b : Nat) (w : World) : (callFunc 33 #[.float .f64 b]).run Tryd.prog w = .ok (.value (.int .u64 b)) w := by kernel_rfl
theorem run_ffrom (n : Int) (w : World) : (callFunc 76 #[.int .u64 n]).run Tryd.prog w = .ok (.value (.float .f64 n.toNat)) w := by kernel_rfl

set_option maxRecDepth 100000 in
set_option maxHeartbeats 1000000 in
theorem copysign_any (x y : Nat) (w : World) : Calls Tryd.prog 70 #[.float .f64 x, .float .f64 y] w (FlPost w) := by
  have c1 := fun b W => run_fbits b W
  have c2 := fun n W => run_ffrom n W
  go_enter Tryd.func70, Tryd.ntmps70
  go_wp2
  go_ret
  exact ⟨_, rfl, by repeat (first | exact Below.refl _ _ | exact (Below.refl _ _).alloc (Nat.le_refl _) _ | refine Below.drew ?_ | refine below_drewN ?_ _ | refine up_below ?_ (Nat.le_refl _) (by assumption))⟩

set_option maxRecDepth 100000 in
set_option maxHeartbeats 1000000 in
theorem modf_any (x : Nat) (w : World) : Calls Tryd.prog 63 #[.float .f64 x] w fun e w' => ∃ a b, e = .returned (.tuple #[.float .f64 a, .float .f64 b]) ∧ Below w.heap.size w w' := by
  have c1 := fun x y W => run_sub x y W
  go_enter Tryd.func63, Tryd.ntmps63
  go_wp2_with (first | (go_at_call 69; refine (truncF_any _ _).mono ?_; rintro e w1 ⟨a, rfl, hb1⟩) | (go_at_call 70; refine (copysign_any _ _ _).mono ?_; rintro e w2 ⟨b, rfl, hb2⟩))
  go_ret2
  exact ⟨_, _, rfl, by repeat (first | exact Below.refl _ _ | exact (Below.refl _ _).alloc (Nat.le_refl _) _ | refine Below.drew ?_ | refine below_drewN ?_ _ | refine up_below ?_ (Nat.le_refl _) (by assumption))⟩

end Go.Proofs.YtiijcmdfbgoafaaDoor
