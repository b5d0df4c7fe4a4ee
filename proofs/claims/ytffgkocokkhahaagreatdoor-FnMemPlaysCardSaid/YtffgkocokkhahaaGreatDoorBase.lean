/-
  The walks of the small functions: width, isIdeal, isFloat, bits, zzFits1.
-/
import Derived.Test.YtffgkocokkhahaaGreatDoorRows
import Derived.Test.YtffgkocokkhahaaGreatDoorKd
import Derived.WalkKit
import Derived.WalkSpells
import Derived.WalkLawsBesides
import Derived.Deep.QuietTactic
import Derived.BigQuiet
import Derived.Lib.Hide
namespace Go.Proofs.YtffgkocokkhahaaGreatDoor
open Go.RowKit

theorem bcell {W w1 : World} (hb : Below W.heap.size W w1) : (∀ b o, b < W.heap.size → w1.cell? ⟨b, o, none⟩ = W.cell? ⟨b, o, none⟩) ∧ (∀ b o, b < W.heap.size → w1.frozen? ⟨b, o, none⟩ = W.frozen? ⟨b, o, none⟩) :=
  ⟨fun b o h => hb.cell (p := ⟨b, o, none⟩) h, fun b o h => hb.frozen (p := ⟨b, o, none⟩) h⟩

theorem quiet_of_left {P : Program} {f : FuncId} {args : Array Value} {w : World} {n : Nat} {v : Value}
    (h : Calls P f args (w.drewN n) fun e w' => e = .returned v ∧ w.drewN n = w') : Calls P f args (w.drewN n) fun e w'' => e = .returned v ∧ ∃ m, w'' = w.drewN m :=
  h.mono fun _ _ ⟨he, hm⟩ => ⟨he, n, hm.symm⟩

theorem quiet_add_left {P : Program} {f : FuncId} {args : Array Value} {w : World} {a n : Nat} {v : Value}
    (h : Calls P f args (w.drewN (a + n)) fun e w' => e = .returned v ∧ w.drewN (a + n) = w') :
    Calls P f args (w.drewN (a + n)) fun e w'' => e = .returned v ∧ ∃ m, w'' = w.drewN (a + m) :=
  h.mono fun _ _ ⟨he, hm⟩ => ⟨he, n, hm.symm⟩

section
variable {P : Program} (w : World) (a : Addr) (m : Mode)
/-- A float is stored as any one cell. -/
@[go_sem] theorem run_store_float (k : FloatKind) (b : Nat) : (store a (.float k b) m).run P w = stored P w a (.float k b) m := run_store P w a _ m rfl
end

set_option maxHeartbeats 400000 in
theorem width_any (k : ByteArray) (w : World) :
    Calls Tryz.prog 76 #[.string k] w fun e w' => e = .returned (.tuple #[.int .i64 (Kd.of k.toList).width, .bool (Kd.of k.toList).sgn]) ∧ w = w' := by
  cases hk : Kd.of k.toList
  case other =>
    obtain ⟨h1, h2, h3, h4, h5, h6, h7, h8, h9, h10, h11, h12, h13, h14, h15, h16, h17, h18⟩ := Kd.of_other _ hk
    clear hk
    go_enter Tryz.func76, Tryz.ntmps76
    go_wp2
    go_ret2
    exact ⟨rfl, rfl⟩
  case int q =>
    have hl := Kd.of_lit _ hk (by simp)
    clear hk
    cases q <;> (simp only [Kd.lit] at hl; go_enter Tryz.func76, Tryz.ntmps76; go_wp2; go_ret2; exact ⟨rfl, rfl⟩)
  all_goals
    have hl := Kd.of_lit _ hk (by simp)
    clear hk
    simp only [Kd.lit] at hl
    go_enter Tryz.func76, Tryz.ntmps76
    go_wp2
    go_ret2
    exact ⟨rfl, rfl⟩

set_option maxHeartbeats 400000 in
theorem isIdeal_any (k : ByteArray) (w : World) :
    Calls Tryz.prog 51 #[.string k] w fun e w' => e = .returned (.bool (Kd.of k.toList).ideal) ∧ w = w' := by
  cases hk : Kd.of k.toList
  case other =>
    obtain ⟨h1, h2, h3, h4, h5, h6, h7, h8, h9, h10, h11, h12, h13, h14, h15, h16, h17, h18⟩ := Kd.of_other _ hk
    clear hk
    go_enter Tryz.func51, Tryz.ntmps51
    go_wp2
    go_ret
    exact ⟨rfl, rfl⟩
  case int q =>
    have hl := Kd.of_lit _ hk (by simp)
    clear hk
    cases q <;> (simp only [Kd.lit] at hl; go_enter Tryz.func51, Tryz.ntmps51; go_wp2; go_ret; exact ⟨rfl, rfl⟩)
  all_goals
    have hl := Kd.of_lit _ hk (by simp)
    clear hk
    simp only [Kd.lit] at hl
    go_enter Tryz.func51, Tryz.ntmps51
    go_wp2
    go_ret
    exact ⟨rfl, rfl⟩

set_option maxHeartbeats 400000 in
theorem isFloat_any (k : ByteArray) (w : World) :
    Calls Tryz.prog 77 #[.string k] w fun e w' => e = .returned (.bool (Kd.of k.toList).flt) ∧ w = w' := by
  cases hk : Kd.of k.toList
  case other =>
    obtain ⟨h1, h2, h3, h4, h5, h6, h7, h8, h9, h10, h11, h12, h13, h14, h15, h16, h17, h18⟩ := Kd.of_other _ hk
    clear hk
    go_enter Tryz.func77, Tryz.ntmps77
    go_wp2
    go_ret
    exact ⟨rfl, rfl⟩
  case int q =>
    have hl := Kd.of_lit _ hk (by simp)
    clear hk
    cases q <;> (simp only [Kd.lit] at hl; go_enter Tryz.func77, Tryz.ntmps77; go_wp2; go_ret; exact ⟨rfl, rfl⟩)
  all_goals
    have hl := Kd.of_lit _ hk (by simp)
    clear hk
    simp only [Kd.lit] at hl
    go_enter Tryz.func77, Tryz.ntmps77
    go_wp2
    go_ret
    exact ⟨rfl, rfl⟩

theorem run_f64bits (b : Nat) (w : World) : (callFunc 82 #[.float .f64 b]).run Tryz.prog w = .ok (.value (.int .u64 b)) w := by kernel_rfl

set_option maxHeartbeats 400000 in
theorem bits_any (b : Nat) (w : World) :
    Calls Tryz.prog 62 #[.float .f64 b] w fun e w' => e = .returned (.int .u64 (bitsV b)) ∧ w = w' := by
  have hf := run_f64bits b
  by_cases h : numB b = true
  · have hb : bitsV b = b := if_pos h
    rw [hb]
    clear hb
    have h1 : FloatKind.f64.format.order b b = some .eq := eq_of_beq h
    have h' : (FloatKind.f64.format.order b b != some .eq) = false := by rw [h1]; rfl
    clear h h1
    go_enter Tryz.func62, Tryz.ntmps62
    go_wp2
    go_ret
    exact ⟨rfl, rfl⟩
  · have hb : bitsV b = 1 := if_neg h
    rw [hb]
    clear hb
    have h1 : (FloatKind.f64.format.order b b == some .eq) = false := Bool.eq_false_iff.2 h
    have h' : (FloatKind.f64.format.order b b != some .eq) = true := by unfold bne; rw [h1]; rfl
    clear h h1
    go_enter Tryz.func62, Tryz.ntmps62
    go_wp2
    go_ret
    exact ⟨rfl, rfl⟩

/-- Nothing in a value is longer than the bound. -/
def fitsB (k s : ByteArray) : Bool := decide (k.size ≤ 2147483647) && decide (s.size ≤ 2147483647)

set_option maxHeartbeats 400000 in
theorem zzFits1_any (k : ByteArray) (n u : Int) (f : Nat) (s : ByteArray) (w : World) :
    Calls Tryz.prog 49 #[.agg #[.string k, .int .i64 n, .int .u64 u, .float .f64 f, .string s]] w fun e w' => e = .returned (.bool (fitsB k s)) ∧ Below w.heap.size w w' := by
  by_cases h1 : (k.size : Int) > 2147483647
  · have hb : fitsB k s = false := by unfold fitsB; simp; omega
    rw [hb]
    clear hb
    go_enter Tryz.func49, Tryz.ntmps49
    go_wp2
    go_ret
    exact ⟨rfl, (Below.refl _ _).alloc (Nat.le_refl _) _⟩
  · by_cases h2 : (s.size : Int) > 2147483647
    · have hb : fitsB k s = false := by unfold fitsB; simp; omega
      rw [hb]
      clear hb
      go_enter Tryz.func49, Tryz.ntmps49
      go_wp2
      go_ret
      exact ⟨rfl, (Below.refl _ _).alloc (Nat.le_refl _) _⟩
    · have hb : fitsB k s = true := by unfold fitsB; simp; omega
      rw [hb]
      clear hb
      go_enter Tryz.func49, Tryz.ntmps49
      go_wp2
      go_ret
      exact ⟨rfl, (Below.refl _ _).alloc (Nat.le_refl _) _⟩

end Go.Proofs.YtffgkocokkhahaaGreatDoor
