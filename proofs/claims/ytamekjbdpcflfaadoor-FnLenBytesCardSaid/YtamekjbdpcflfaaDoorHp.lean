/-
  strings.HasPrefix, ql.builtinHasPrefix, impl.HasPrefix of strings; laws.str, laws.truth, laws.isTrue. PRINTED BY wip/tpl/gen_hp.py.
-/
import Derived.Test.YtamekjbdpcflfaaDoorTold
import Derived.Test.YtamekjbdpcflfaaDoorBw
import Derived.Deep.RegionWith
namespace Go.Proofs.YtamekjbdpcflfaaDoor
open Go.RowKit

/-- The first string begins with the second one. -/
def preB (s t : ByteArray) : Bool := decide ((t.size : Int) ≤ s.size) && ((s.extract 0 t.size).toList == t.toList)

set_option maxRecDepth 100000 in
set_option maxHeartbeats 1000000 in
theorem hpS_any (s t : ByteArray) (w : World) : Calls Tryd.prog 58 #[.string s, .string t] w fun e w' => e = .returned (.bool (preB s t)) ∧ w = w' := by
  by_cases h : (t.size : Int) ≤ s.size
  · rw [show preB s t = ((s.extract 0 t.size).toList == t.toList) from by unfold preB; rw [decide_eq_true h, Bool.true_and]]
    go_enter Tryd.func58, Tryd.ntmps58
    go_wp2
    go_ret
    exact ⟨rfl, rfl⟩
  · rw [show preB s t = false from by unfold preB; rw [decide_eq_false h, Bool.false_and]]
    go_enter Tryd.func58, Tryd.ntmps58
    go_wp2
    go_ret
    exact ⟨rfl, rfl⟩

set_option maxRecDepth 100000 in
set_option maxHeartbeats 1000000 in
theorem hp2_any (s t : ByteArray) (w : World) : Calls Tryd.prog 55 #[.string s, .string t] w fun e w' => e = .returned (.bool (preB s t)) ∧ w = w' := by
  go_enter Tryd.func55, Tryd.ntmps55
  go_wp2_with (go_at_call 58; refine (hpS_any _ _ _).mono ?_; rintro e w' ⟨rfl, rfl⟩)
  go_ret
  exact ⟨rfl, rfl⟩

set_option maxRecDepth 100000 in
set_option maxHeartbeats 1000000 in
theorem bh_any (s t : ByteArray) (b : Nat) (m : Value) (w : World) (c0 : w.cell? ⟨b, 0, none⟩ = some (.iface 9 (.string s))) (c1 : w.cell? ⟨b, 1, none⟩ = some (.iface 9 (.string t))) :
    Calls Tryd.prog 45 #[.slice (some ⟨b, 0, none⟩) 2 2, m] w fun e w' => e = .returned (.tuple #[.iface 4 (.bool (preB s t)), .nilIface]) ∧ w = w' := by
  go_enter Tryd.func45, Tryd.ntmps45
  go_wp2_with (go_at_call 55; refine (hp2_any _ _ _).mono ?_; rintro e w' ⟨rfl, rfl⟩)
  go_ret2
  exact ⟨rfl, rfl⟩

set_option maxRecDepth 100000 in
set_option maxHeartbeats 1000000 in
theorem zh_any (s t : ByteArray) (b : Nat) (w : World) (c0 : w.cell? ⟨b, 0, none⟩ = some (.iface 9 (.string s))) (c1 : w.cell? ⟨b, 1, none⟩ = some (.iface 9 (.string t))) :
    Calls Tryd.prog 30 #[.slice (some ⟨b, 0, none⟩) 2 2] w fun e w' => e = .returned (.tuple #[.iface 4 (.bool (preB s t)), .nilIface]) ∧ w = w' := by
  go_enter Tryd.func30, Tryd.ntmps30
  go_wp2_with (go_at_call 45; refine (bh_any s t b _ _ c0 c1).mono ?_; rintro e w' ⟨rfl, rfl⟩)
  go_ret2
  exact ⟨rfl, rfl⟩

def strS : ByteArray := ⟨#[115, 116, 114, 105, 110, 103]⟩
def boolS : ByteArray := ⟨#[98, 111, 111, 108]⟩

set_option maxRecDepth 100000 in
set_option maxHeartbeats 1000000 in
theorem str_any (s : ByteArray) (w : World) : Calls Tryd.prog 12 #[.string s] w fun e w' => e = .returned (.agg #[.string strS, .int .i64 0, .int .u64 0, .float .f64 0, .string s]) ∧ Below w.heap.size w w' := by
  go_enter Tryd.func12, Tryd.ntmps12
  go_wp2
  exact bodyPost_ret (v := .agg #[.string strS, .int .i64 0, .int .u64 0, .float .f64 0, .string s]) (by simp [results, Tryd.results12, go_sem, strS]) rfl ⟨rfl, (Below.refl _ _).alloc (Nat.le_refl _) _⟩

set_option maxRecDepth 100000 in
set_option maxHeartbeats 1000000 in
theorem truth_b (b : Bool) (w : World) : Calls Tryd.prog 15 #[.bool b] w fun e w' => e = .returned (.agg #[.string boolS, .int .i64 (if b = true then 1 else 0), .int .u64 0, .float .f64 0, .string empS]) ∧ Below w.heap.size w w' := by
  cases b with
  | true =>
    go_enter Tryd.func15, Tryd.ntmps15
    go_wp2
    exact bodyPost_ret (v := .agg #[.string boolS, .int .i64 1, .int .u64 0, .float .f64 0, .string empS]) (by simp [results, go_sem, boolS, empS]) rfl ⟨rfl, by repeat (first | exact Below.refl _ _ | exact (Below.refl _ _).alloc (Nat.le_refl _) _ | refine Below.drew ?_ | refine below_drewN ?_ _ | refine Below.setCell ?_ (by first | omega | (simp; omega) | simp) _ | refine Below.alloc ?_ (by first | omega | (simp; omega)) _ | refine up_below ?_ (Nat.le_refl _) (by assumption))⟩
  | false =>
    go_enter Tryd.func15, Tryd.ntmps15
    go_wp2
    exact bodyPost_ret (v := .agg #[.string boolS, .int .i64 0, .int .u64 0, .float .f64 0, .string empS]) (by simp [results, go_sem, boolS, empS]) rfl ⟨rfl, by repeat (first | exact Below.refl _ _ | exact (Below.refl _ _).alloc (Nat.le_refl _) _ | refine Below.drew ?_ | refine below_drewN ?_ _ | refine Below.setCell ?_ (by first | omega | (simp; omega) | simp) _ | refine Below.alloc ?_ (by first | omega | (simp; omega)) _ | refine up_below ?_ (Nat.le_refl _) (by assumption))⟩

set_option maxRecDepth 100000 in
set_option maxHeartbeats 1000000 in
theorem isTrue_1 (w : World) : Calls Tryd.prog 13 #[.agg #[.string boolS, .int .i64 1, .int .u64 0, .float .f64 0, .string empS]] w fun e w' => e = .returned (.bool true) ∧ Below w.heap.size w w' := by
  have h8 : (boolS.toList == [98, 111, 111, 108]) = true := by decide +kernel
  go_enter Tryd.func13, Tryd.ntmps13
  go_wp2
  go_ret
  exact ⟨rfl, by repeat (first | exact Below.refl _ _ | exact (Below.refl _ _).alloc (Nat.le_refl _) _ | refine Below.drew ?_ | refine below_drewN ?_ _ | refine Below.setCell ?_ (by first | omega | (simp; omega) | simp) _ | refine Below.alloc ?_ (by first | omega | (simp; omega)) _ | refine up_below ?_ (Nat.le_refl _) (by assumption))⟩

def sRec (s : ByteArray) : Value := .agg #[.string strS, .int .i64 0, .int .u64 0, .float .f64 0, .string s]

theorem below_h3 (w : World) (a b c : Obj) : Below w.heap.size w (((w.alloc a).alloc b).alloc c) := (((Below.refl _ _).alloc (Nat.le_refl _) _).alloc (by simp) _).alloc (by simp; omega) _

set_option maxRecDepth 100000 in
set_option maxHeartbeats 1000000 in
theorem implHp_true (s t : ByteArray) (hp : preB s t = true) (w : World) :
    Calls Tryd.prog 11 #[.agg #[.string strS, .int .i64 0, .int .u64 0, .float .f64 0, .string s], .agg #[.string strS, .int .i64 0, .int .u64 0, .float .f64 0, .string t]] w
      fun e w' => e = .returned (.tuple #[.agg #[.string boolS, .int .i64 1, .int .u64 0, .float .f64 0, .string empS], .int .i64 0]) ∧ Below w.heap.size w w' := by
  have HI := Lib.hid (fun (s : ByteArray) w => in_str strS (by decide +kernel) 0 0 0 s w)
  have HZ := Lib.hid (fun b w (c0 : w.cell? ⟨b, 0, none⟩ = some (.iface 9 (.string s))) (c1 : w.cell? ⟨b, 1, none⟩ = some (.iface 9 (.string t))) => zh_any s t b w c0 c1)
  rw [hp] at HZ
  clear hp
  go_enter Tryd.func11, Tryd.ntmps11
  go_wp2
  go_region_with (first | (go_at_call_of 26 (Value.string s); refine (HI.out s _).mono ?_; rintro e w1 ⟨rfl, hb1⟩; obtain ⟨hc1, hf1⟩ := bcellD hb1; have hz1 : w.heap.size < w1.heap.size := (by have := hb1.size; (try simp at this); omega); have hy1 : w.heap.size + 1 < w1.heap.size := (by have := hb1.size; (try simp at this); omega); have hx1 : w.heap.size + 2 < w1.heap.size := (by have := hb1.size; (try simp at this); omega)) | (go_at_call_of 26 (Value.string t); refine (HI.out t _).mono ?_; rintro e w2 ⟨rfl, hb2⟩; obtain ⟨hc2, hf2⟩ := bcell hb2; have hz2 : w.heap.size < w2.heap.size := (by have := hb2.size; (try simp at this); omega); have hy2 : w.heap.size + 1 < w2.heap.size := (by have := hb2.size; (try simp at this); omega); have hx2 : w.heap.size + 2 < w2.heap.size := (by have := hb2.size; (try simp at this); omega)) | (go_at_call 30; refine (HZ.out w2.heap.size _ (by simp [go_sem]) (by simp [go_sem])).mono ?_; rintro e w3 ⟨rfl, rfl⟩) | (go_at_call 29; refine (told_ok (.bool true) trivial _ _ rfl).mono ?_; rintro e w4 ⟨g, hg, rfl, hb4⟩; obtain rfl : g = 0 := hg; obtain ⟨hc4, hf4⟩ := bcell hb4; have hz4 : w.heap.size < w4.heap.size := (by have := hb4.size; (try simp at this); omega); have hy4 : w.heap.size + 1 < w4.heap.size := (by have := hb4.size; (try simp at this); omega); have hx4 : w.heap.size + 2 < w4.heap.size := (by have := hb4.size; (try simp at this); omega)))
  all_goals
    go_wp2
    exact bodyPost_ret (v := .tuple #[.agg #[.string boolS, .int .i64 1, .int .u64 0, .float .f64 0, .string empS], .int .i64 0]) (by simp [results, go_sem, hc1, hc2, hc4, hy2, hx1, hx2]; exact ⟨rfl, rfl, rfl, rfl⟩) rfl ⟨rfl, below_st5 (up_below ((up_below (up_below (below_h3 w _ _ _).drew (Nat.le_refl _) hb1) (Nat.le_refl _) hb2).alloc (by omega) _) (Nat.le_refl _) hb4) (by omega) _ _ _ _ _⟩

set_option maxRecDepth 100000 in
set_option maxHeartbeats 1000000 in
theorem implHp_false (s t : ByteArray) (hp : preB s t = false) (w : World) :
    Calls Tryd.prog 11 #[.agg #[.string strS, .int .i64 0, .int .u64 0, .float .f64 0, .string s], .agg #[.string strS, .int .i64 0, .int .u64 0, .float .f64 0, .string t]] w
      fun e w' => e = .returned (.tuple #[.agg #[.string boolS, .int .i64 0, .int .u64 0, .float .f64 0, .string empS], .int .i64 0]) ∧ Below w.heap.size w w' := by
  have HI := Lib.hid (fun (s : ByteArray) w => in_str strS (by decide +kernel) 0 0 0 s w)
  have HZ := Lib.hid (fun b w (c0 : w.cell? ⟨b, 0, none⟩ = some (.iface 9 (.string s))) (c1 : w.cell? ⟨b, 1, none⟩ = some (.iface 9 (.string t))) => zh_any s t b w c0 c1)
  rw [hp] at HZ
  clear hp
  go_enter Tryd.func11, Tryd.ntmps11
  go_wp2
  go_region_with (first | (go_at_call_of 26 (Value.string s); refine (HI.out s _).mono ?_; rintro e w1 ⟨rfl, hb1⟩; obtain ⟨hc1, hf1⟩ := bcellD hb1; have hz1 : w.heap.size < w1.heap.size := (by have := hb1.size; (try simp at this); omega); have hy1 : w.heap.size + 1 < w1.heap.size := (by have := hb1.size; (try simp at this); omega); have hx1 : w.heap.size + 2 < w1.heap.size := (by have := hb1.size; (try simp at this); omega)) | (go_at_call_of 26 (Value.string t); refine (HI.out t _).mono ?_; rintro e w2 ⟨rfl, hb2⟩; obtain ⟨hc2, hf2⟩ := bcell hb2; have hz2 : w.heap.size < w2.heap.size := (by have := hb2.size; (try simp at this); omega); have hy2 : w.heap.size + 1 < w2.heap.size := (by have := hb2.size; (try simp at this); omega); have hx2 : w.heap.size + 2 < w2.heap.size := (by have := hb2.size; (try simp at this); omega)) | (go_at_call 30; refine (HZ.out w2.heap.size _ (by simp [go_sem]) (by simp [go_sem])).mono ?_; rintro e w3 ⟨rfl, rfl⟩) | (go_at_call 29; refine (told_ok (.bool false) trivial _ _ rfl).mono ?_; rintro e w4 ⟨g, hg, rfl, hb4⟩; obtain rfl : g = 0 := hg; obtain ⟨hc4, hf4⟩ := bcell hb4; have hz4 : w.heap.size < w4.heap.size := (by have := hb4.size; (try simp at this); omega); have hy4 : w.heap.size + 1 < w4.heap.size := (by have := hb4.size; (try simp at this); omega); have hx4 : w.heap.size + 2 < w4.heap.size := (by have := hb4.size; (try simp at this); omega)))
  all_goals
    go_wp2
    exact bodyPost_ret (v := .tuple #[.agg #[.string boolS, .int .i64 0, .int .u64 0, .float .f64 0, .string empS], .int .i64 0]) (by simp [results, go_sem, hc1, hc2, hc4, hy2, hx1, hx2]; exact ⟨rfl, rfl, rfl, rfl⟩) rfl ⟨rfl, below_st5 (up_below ((up_below (up_below (below_h3 w _ _ _).drew (Nat.le_refl _) hb1) (Nat.le_refl _) hb2).alloc (by omega) _) (Nat.le_refl _) hb4) (by omega) _ _ _ _ _⟩

theorem implHp_any (s t : ByteArray) (w : World) :
    Calls Tryd.prog 11 #[.agg #[.string strS, .int .i64 0, .int .u64 0, .float .f64 0, .string s], .agg #[.string strS, .int .i64 0, .int .u64 0, .float .f64 0, .string t]] w
      fun e w' => e = .returned (.tuple #[.agg #[.string boolS, .int .i64 (if preB s t = true then 1 else 0), .int .u64 0, .float .f64 0, .string empS], .int .i64 0]) ∧ Below w.heap.size w w' := by
  cases hp : preB s t with
  | true => exact implHp_true s t hp w
  | false => exact implHp_false s t hp w

end Go.Proofs.YtamekjbdpcflfaaDoor
