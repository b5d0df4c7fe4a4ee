/-
  The walk of impl.out: a value of the program as plain data. PRINTED BY wip/tpl/gen_out.py.
-/
import Derived.Test.YtffgkocokkhahaaDoorTp06

/- The walk of impl.out: a value of the program as plain data. PRINTED BY wip/tpl/gen_out.py. -/
namespace Go.Proofs.YtffgkocokkhahaaDoor
open Go.RowKit

/-- The name of a value's kind. -/
def SV.nm : SV → ByteArray
  | .null => ⟨#[]⟩
  | .bool _ => ⟨#[98, 111, 111, 108]⟩
  | .int .i8 _ => ⟨#[105, 110, 116, 56]⟩
  | .int .i16 _ => ⟨#[105, 110, 116, 49, 54]⟩
  | .int .i32 _ => ⟨#[105, 110, 116, 51, 50]⟩
  | .int .i64 _ => ⟨#[105, 110, 116, 54, 52]⟩
  | .int .u8 _ => ⟨#[117, 105, 110, 116, 56]⟩
  | .int .u16 _ => ⟨#[117, 105, 110, 116, 49, 54]⟩
  | .int .u32 _ => ⟨#[117, 105, 110, 116, 51, 50]⟩
  | .int .u64 _ => ⟨#[117, 105, 110, 116, 54, 52]⟩
  | .f32 _ => ⟨#[102, 108, 111, 97, 116, 51, 50]⟩
  | .f64 _ => ⟨#[102, 108, 111, 97, 116, 54, 52]⟩
  | .str _ => ⟨#[115, 116, 114, 105, 110, 103]⟩
  | .blob _ => ⟨#[98, 108, 111, 98]⟩
  | .iInt _ => ⟨#[105, 100, 101, 97, 108, 73, 110, 116]⟩
  | .iRune _ => ⟨#[105, 100, 101, 97, 108, 82, 117, 110, 101]⟩
  | .iUint _ => ⟨#[105, 100, 101, 97, 108, 85, 105, 110, 116]⟩
  | .iFloat _ => ⟨#[105, 100, 101, 97, 108, 70, 108, 111, 97, 116]⟩
def SV.oN : SV → Int
  | .bool b => if b = true then 1 else 0
  | .int k n => if k.signed = true then n else 0
  | .iInt n | .iRune n => n
  | _ => 0
def SV.oU : SV → Int
  | .int k n => if k.signed = true then 0 else n
  | .iUint n => n
  | _ => 0
def SV.oF : SV → Nat
  | .f32 x => Flt.up x
  | .f64 x | .iFloat x => x
  | _ => 0
def SV.oS : SV → ByteArray
  | .str s => s
  | .blob l => ⟨l.toArray⟩
  | _ => ⟨#[]⟩
def SV.isN32 : SV → Bool
  | .f32 x => (Ieee.single.read x).isNaN
  | _ => false

/-- The float that comes out: of a float32 that is no number some one that is none. -/
def FOut (x : SV) (f : Nat) : Prop := if x.isN32 = true then (Ieee.double.read f).isNaN = true ∧ f < 18446744073709551616 else f = x.oF

def OutPost (x : SV) (w : World) (e : Ending) (w' : World) : Prop :=
  ∃ f, e = .returned (.agg #[.string x.nm, .int .i64 x.oN, .int .u64 x.oU, .float .f64 f, .string x.oS]) ∧ Below w.heap.size w w' ∧ FOut x f

set_option maxRecDepth 100000 in
set_option maxHeartbeats 1000000 in
theorem truth_any (b : Bool) (w : World) :
    Calls Tryd.prog 106 #[.bool b] w fun e w' => e = .returned (.agg #[.string ⟨#[98, 111, 111, 108]⟩, .int .i64 (if b = true then 1 else 0), .int .u64 (0), .float .f64 (0), .string ⟨#[]⟩]) ∧ Below w.heap.size w w' := by
  cases b with
  | true =>
    go_enter Tryd.func106, Tryd.ntmps106
    go_wp2
    exact bodyPost_ret (v := .agg #[.string ⟨#[98, 111, 111, 108]⟩, .int .i64 (1), .int .u64 (0), .float .f64 (0), .string ⟨#[]⟩]) (by simp [results, go_sem]) rfl ⟨rfl, ((Below.refl _ _).alloc (Nat.le_refl _) _).alloc (by simp) _⟩
  | false =>
    go_enter Tryd.func106, Tryd.ntmps106
    go_wp2
    exact bodyPost_ret (v := .agg #[.string ⟨#[98, 111, 111, 108]⟩, .int .i64 (0), .int .u64 (0), .float .f64 (0), .string ⟨#[]⟩]) (by simp [results, go_sem]) rfl ⟨rfl, ((Below.refl _ _).alloc (Nat.le_refl _) _).alloc (by simp) _⟩

theorem results_tmp4 {fn : Func} {t u v x : Tmp} (h : fn.results = #[.tmp t, .tmp u, .tmp v, .tmp x]) (tmps : Array Value) (P : Program) (w : World) :
    (results fn tmps).run P w = .ok (.tuple #[tmps.getD t undef, tmps.getD u undef, tmps.getD v undef, tmps.getD x undef]) w := by simp [results, h]

set_option maxRecDepth 100000 in
set_option maxHeartbeats 1000000 in
theorem lit_null  (w : World) :
    Calls Tryd.prog 107 #[.nilIface] w fun e w' => e = .returned (.tuple #[.int .i64 0, .int .i64 0, .int .u64 0, .float .f64 0]) ∧ w = w' := by
  go_enter Tryd.func107, Tryd.ntmps107
  go_wp2
  refine bodyPost_ret (results_tmp4 rfl _ _ _) rfl ?_
  exact ⟨rfl, rfl⟩

set_option maxRecDepth 100000 in
set_option maxHeartbeats 1000000 in
theorem lit_iInt (n : Int) (w : World) :
    Calls Tryd.prog 107 #[.iface 249 (.int .i64 n)] w fun e w' => e = .returned (.tuple #[.int .i64 1, .int .i64 n, .int .u64 0, .float .f64 0]) ∧ w = w' := by
  go_enter Tryd.func107, Tryd.ntmps107
  go_wp2
  refine bodyPost_ret (results_tmp4 rfl _ _ _) rfl ?_
  exact ⟨rfl, rfl⟩

set_option maxRecDepth 100000 in
set_option maxHeartbeats 1000000 in
theorem lit_iRune (n : Int) (hw : wrap64 n = n) (w : World) :
    Calls Tryd.prog 107 #[.iface 250 (.int .i32 n)] w fun e w' => e = .returned (.tuple #[.int .i64 2, .int .i64 n, .int .u64 0, .float .f64 0]) ∧ w = w' := by
  go_enter Tryd.func107, Tryd.ntmps107
  go_wp2
  refine bodyPost_ret (results_tmp4 rfl _ _ _) rfl ?_
  exact ⟨congrArg (fun m => Ending.returned (.tuple #[.int .i64 2, .int .i64 m, .int .u64 0, .float .f64 0])) hw, rfl⟩

set_option maxRecDepth 100000 in
set_option maxHeartbeats 1000000 in
theorem lit_iUint (n : Int) (w : World) :
    Calls Tryd.prog 107 #[.iface 251 (.int .u64 n)] w fun e w' => e = .returned (.tuple #[.int .i64 3, .int .i64 0, .int .u64 n, .float .f64 0]) ∧ w = w' := by
  go_enter Tryd.func107, Tryd.ntmps107
  go_wp2
  refine bodyPost_ret (results_tmp4 rfl _ _ _) rfl ?_
  exact ⟨rfl, rfl⟩

set_option maxRecDepth 100000 in
set_option maxHeartbeats 1000000 in
theorem lit_iFloat (x : Nat) (w : World) :
    Calls Tryd.prog 107 #[.iface 252 (.float .f64 x)] w fun e w' => e = .returned (.tuple #[.int .i64 4, .int .i64 0, .int .u64 0, .float .f64 x]) ∧ w = w' := by
  go_enter Tryd.func107, Tryd.ntmps107
  go_wp2
  refine bodyPost_ret (results_tmp4 rfl _ _ _) rfl ?_
  exact ⟨rfl, rfl⟩

set_option maxRecDepth 100000 in
set_option maxHeartbeats 1000000 in
theorem out_null  (v : Value) (w : World) (h : Rep w (.null) v) :
    Calls Tryd.prog 74 #[v] w (OutPost (.null) w) := by
  obtain rfl := h
  go_enter Tryd.func74, Tryd.ntmps74
  go_wp2_with (go_at_call 107; refine (lit_null _).mono ?_; rintro e w1 ⟨rfl, rfl⟩)
  exact bodyPost_ret (v := .agg #[.string ⟨#[]⟩, .int .i64 (0), .int .u64 (0), .float .f64 (0), .string ⟨#[]⟩]) (by simp [results, go_sem]) rfl ⟨_, rfl, by repeat (first | exact (Below.refl _ _).alloc (Nat.le_refl _) _ | refine Below.drew ?_ | refine Below.alloc ?_ (by simp) _ | refine Below.setCell ?_ (by simp) _), rfl⟩

set_option maxRecDepth 100000 in
set_option maxHeartbeats 1000000 in
theorem out_iInt (n : Int) (v : Value) (w : World) (h : Rep w (.iInt n) v) :
    Calls Tryd.prog 74 #[v] w (OutPost (.iInt n) w) := by
  obtain rfl := h
  go_enter Tryd.func74, Tryd.ntmps74
  go_wp2_with (go_at_call 107; refine (lit_iInt n _).mono ?_; rintro e w1 ⟨rfl, rfl⟩)
  exact bodyPost_ret (v := .agg #[.string ⟨#[105, 100, 101, 97, 108, 73, 110, 116]⟩, .int .i64 (n), .int .u64 (0), .float .f64 (0), .string ⟨#[]⟩]) (by simp [results, go_sem]) rfl ⟨_, rfl, by repeat (first | exact (Below.refl _ _).alloc (Nat.le_refl _) _ | refine Below.drew ?_ | refine Below.alloc ?_ (by simp) _ | refine Below.setCell ?_ (by simp) _), rfl⟩

set_option maxRecDepth 100000 in
set_option maxHeartbeats 1000000 in
theorem out_iRune (n : Int) (v : Value) (w : World) (hw : wrap64 n = n) (h : Rep w (.iRune n) v) :
    Calls Tryd.prog 74 #[v] w (OutPost (.iRune n) w) := by
  obtain rfl := h
  go_enter Tryd.func74, Tryd.ntmps74
  go_wp2_with (go_at_call 107; refine (lit_iRune n hw _).mono ?_; rintro e w1 ⟨rfl, rfl⟩)
  exact bodyPost_ret (v := .agg #[.string ⟨#[105, 100, 101, 97, 108, 82, 117, 110, 101]⟩, .int .i64 (n), .int .u64 (0), .float .f64 (0), .string ⟨#[]⟩]) (by simp [results, go_sem]) rfl ⟨_, rfl, by repeat (first | exact (Below.refl _ _).alloc (Nat.le_refl _) _ | refine Below.drew ?_ | refine Below.alloc ?_ (by simp) _ | refine Below.setCell ?_ (by simp) _), rfl⟩

set_option maxRecDepth 100000 in
set_option maxHeartbeats 1000000 in
theorem out_iUint (n : Int) (v : Value) (w : World) (h : Rep w (.iUint n) v) :
    Calls Tryd.prog 74 #[v] w (OutPost (.iUint n) w) := by
  obtain rfl := h
  go_enter Tryd.func74, Tryd.ntmps74
  go_wp2_with (go_at_call 107; refine (lit_iUint n _).mono ?_; rintro e w1 ⟨rfl, rfl⟩)
  exact bodyPost_ret (v := .agg #[.string ⟨#[105, 100, 101, 97, 108, 85, 105, 110, 116]⟩, .int .i64 (0), .int .u64 (n), .float .f64 (0), .string ⟨#[]⟩]) (by simp [results, go_sem]) rfl ⟨_, rfl, by repeat (first | exact (Below.refl _ _).alloc (Nat.le_refl _) _ | refine Below.drew ?_ | refine Below.alloc ?_ (by simp) _ | refine Below.setCell ?_ (by simp) _), rfl⟩

set_option maxRecDepth 100000 in
set_option maxHeartbeats 1000000 in
theorem out_iFloat (x : Nat) (v : Value) (w : World) (h : Rep w (.iFloat x) v) :
    Calls Tryd.prog 74 #[v] w (OutPost (.iFloat x) w) := by
  obtain rfl := h
  go_enter Tryd.func74, Tryd.ntmps74
  go_wp2_with (go_at_call 107; refine (lit_iFloat x _).mono ?_; rintro e w1 ⟨rfl, rfl⟩)
  exact bodyPost_ret (v := .agg #[.string ⟨#[105, 100, 101, 97, 108, 70, 108, 111, 97, 116]⟩, .int .i64 (0), .int .u64 (0), .float .f64 (x), .string ⟨#[]⟩]) (by simp [results, go_sem]) rfl ⟨_, rfl, by repeat (first | exact (Below.refl _ _).alloc (Nat.le_refl _) _ | refine Below.drew ?_ | refine Below.alloc ?_ (by simp) _ | refine Below.setCell ?_ (by simp) _), rfl⟩

set_option maxRecDepth 100000 in
set_option maxHeartbeats 1000000 in
theorem out_i8 (n : Int) (v : Value) (w : World) (hw : wrap64 n = n) (h : Rep w (.int .i8 n) v) :
    Calls Tryd.prog 74 #[v] w (OutPost (.int .i8 n) w) := by
  obtain rfl := h
  simp only [kindT]
  go_enter Tryd.func74, Tryd.ntmps74
  go_wp2
  exact bodyPost_ret (v := .agg #[.string ⟨#[105, 110, 116, 56]⟩, .int .i64 (n), .int .u64 (0), .float .f64 (0), .string ⟨#[]⟩]) (by simp [results, go_sem]) rfl ⟨_, rfl, ((Below.refl _ _).alloc (Nat.le_refl _) _), rfl⟩

set_option maxRecDepth 100000 in
set_option maxHeartbeats 1000000 in
theorem out_i16 (n : Int) (v : Value) (w : World) (hw : wrap64 n = n) (h : Rep w (.int .i16 n) v) :
    Calls Tryd.prog 74 #[v] w (OutPost (.int .i16 n) w) := by
  obtain rfl := h
  simp only [kindT]
  go_enter Tryd.func74, Tryd.ntmps74
  go_wp2
  exact bodyPost_ret (v := .agg #[.string ⟨#[105, 110, 116, 49, 54]⟩, .int .i64 (n), .int .u64 (0), .float .f64 (0), .string ⟨#[]⟩]) (by simp [results, go_sem]) rfl ⟨_, rfl, ((Below.refl _ _).alloc (Nat.le_refl _) _), rfl⟩

set_option maxRecDepth 100000 in
set_option maxHeartbeats 1000000 in
theorem out_i32 (n : Int) (v : Value) (w : World) (hw : wrap64 n = n) (h : Rep w (.int .i32 n) v) :
    Calls Tryd.prog 74 #[v] w (OutPost (.int .i32 n) w) := by
  obtain rfl := h
  simp only [kindT]
  go_enter Tryd.func74, Tryd.ntmps74
  go_wp2
  exact bodyPost_ret (v := .agg #[.string ⟨#[105, 110, 116, 51, 50]⟩, .int .i64 (n), .int .u64 (0), .float .f64 (0), .string ⟨#[]⟩]) (by simp [results, go_sem]) rfl ⟨_, rfl, ((Below.refl _ _).alloc (Nat.le_refl _) _), rfl⟩

set_option maxRecDepth 100000 in
set_option maxHeartbeats 1000000 in
theorem out_i64 (n : Int) (v : Value) (w : World) (h : Rep w (.int .i64 n) v) :
    Calls Tryd.prog 74 #[v] w (OutPost (.int .i64 n) w) := by
  obtain rfl := h
  simp only [kindT]
  go_enter Tryd.func74, Tryd.ntmps74
  go_wp2
  exact bodyPost_ret (v := .agg #[.string ⟨#[105, 110, 116, 54, 52]⟩, .int .i64 (n), .int .u64 (0), .float .f64 (0), .string ⟨#[]⟩]) (by simp [results, go_sem]) rfl ⟨_, rfl, ((Below.refl _ _).alloc (Nat.le_refl _) _), rfl⟩

set_option maxRecDepth 100000 in
set_option maxHeartbeats 1000000 in
theorem out_u8 (n : Int) (v : Value) (w : World) (hw : IntKind.u64.wrap n = n) (h : Rep w (.int .u8 n) v) :
    Calls Tryd.prog 74 #[v] w (OutPost (.int .u8 n) w) := by
  obtain rfl := h
  simp only [kindT]
  go_enter Tryd.func74, Tryd.ntmps74
  go_wp2
  exact bodyPost_ret (v := .agg #[.string ⟨#[117, 105, 110, 116, 56]⟩, .int .i64 (0), .int .u64 (n), .float .f64 (0), .string ⟨#[]⟩]) (by simp [results, go_sem]) rfl ⟨_, rfl, ((Below.refl _ _).alloc (Nat.le_refl _) _), rfl⟩

set_option maxRecDepth 100000 in
set_option maxHeartbeats 1000000 in
theorem out_u16 (n : Int) (v : Value) (w : World) (hw : IntKind.u64.wrap n = n) (h : Rep w (.int .u16 n) v) :
    Calls Tryd.prog 74 #[v] w (OutPost (.int .u16 n) w) := by
  obtain rfl := h
  simp only [kindT]
  go_enter Tryd.func74, Tryd.ntmps74
  go_wp2
  exact bodyPost_ret (v := .agg #[.string ⟨#[117, 105, 110, 116, 49, 54]⟩, .int .i64 (0), .int .u64 (n), .float .f64 (0), .string ⟨#[]⟩]) (by simp [results, go_sem]) rfl ⟨_, rfl, ((Below.refl _ _).alloc (Nat.le_refl _) _), rfl⟩

set_option maxRecDepth 100000 in
set_option maxHeartbeats 1000000 in
theorem out_u32 (n : Int) (v : Value) (w : World) (hw : IntKind.u64.wrap n = n) (h : Rep w (.int .u32 n) v) :
    Calls Tryd.prog 74 #[v] w (OutPost (.int .u32 n) w) := by
  obtain rfl := h
  simp only [kindT]
  go_enter Tryd.func74, Tryd.ntmps74
  go_wp2
  exact bodyPost_ret (v := .agg #[.string ⟨#[117, 105, 110, 116, 51, 50]⟩, .int .i64 (0), .int .u64 (n), .float .f64 (0), .string ⟨#[]⟩]) (by simp [results, go_sem]) rfl ⟨_, rfl, ((Below.refl _ _).alloc (Nat.le_refl _) _), rfl⟩

set_option maxRecDepth 100000 in
set_option maxHeartbeats 1000000 in
theorem out_u64 (n : Int) (v : Value) (w : World) (h : Rep w (.int .u64 n) v) :
    Calls Tryd.prog 74 #[v] w (OutPost (.int .u64 n) w) := by
  obtain rfl := h
  simp only [kindT]
  go_enter Tryd.func74, Tryd.ntmps74
  go_wp2
  exact bodyPost_ret (v := .agg #[.string ⟨#[117, 105, 110, 116, 54, 52]⟩, .int .i64 (0), .int .u64 (n), .float .f64 (0), .string ⟨#[]⟩]) (by simp [results, go_sem]) rfl ⟨_, rfl, ((Below.refl _ _).alloc (Nat.le_refl _) _), rfl⟩

set_option maxRecDepth 100000 in
set_option maxHeartbeats 1000000 in
theorem out_f64 (x : Nat) (v : Value) (w : World) (h : Rep w (.f64 x) v) :
    Calls Tryd.prog 74 #[v] w (OutPost (.f64 x) w) := by
  obtain rfl := h
  go_enter Tryd.func74, Tryd.ntmps74
  go_wp2
  exact bodyPost_ret (v := .agg #[.string ⟨#[102, 108, 111, 97, 116, 54, 52]⟩, .int .i64 (0), .int .u64 (0), .float .f64 (x), .string ⟨#[]⟩]) (by simp [results, go_sem]) rfl ⟨_, rfl, ((Below.refl _ _).alloc (Nat.le_refl _) _), rfl⟩

set_option maxRecDepth 100000 in
set_option maxHeartbeats 1000000 in
theorem out_str (s : ByteArray) (v : Value) (w : World) (h : Rep w (.str s) v) :
    Calls Tryd.prog 74 #[v] w (OutPost (.str s) w) := by
  obtain rfl := h
  go_enter Tryd.func74, Tryd.ntmps74
  go_wp2
  exact bodyPost_ret (v := .agg #[.string ⟨#[115, 116, 114, 105, 110, 103]⟩, .int .i64 (0), .int .u64 (0), .float .f64 (0), .string s]) (by simp [results, go_sem]) rfl ⟨_, rfl, ((Below.refl _ _).alloc (Nat.le_refl _) _), rfl⟩

set_option maxRecDepth 100000 in
set_option maxHeartbeats 1000000 in
theorem out_bool (b : Bool) (v : Value) (w : World) (h : Rep w (.bool b) v) :
    Calls Tryd.prog 74 #[v] w (OutPost (.bool b) w) := by
  obtain rfl := h
  cases b with
  | true =>
    have ht := fun w => truth_any true w
    rw [if_pos rfl] at ht
    have HT := Lib.hid ht
    clear ht
    go_enter Tryd.func74, Tryd.ntmps74
    go_wp2_with (go_at_call 106; refine (HT.out _).mono ?_; rintro e w1 ⟨rfl, hb1⟩; obtain ⟨hc1, hf1⟩ := bcell hb1; have hz1 : w.heap.size < w1.heap.size := (by have := hb1.size; (try simp at this); omega))
    exact bodyPost_ret (v := .agg #[.string ⟨#[98, 111, 111, 108]⟩, .int .i64 (1), .int .u64 (0), .float .f64 (0), .string ⟨#[]⟩]) (by simp [results, go_sem, hc1]) rfl ⟨_, rfl, by repeat (first | exact (Below.refl _ _).alloc (Nat.le_refl _) _ | refine Below.setCell ?_ (by simp) _ | exact (((Below.refl _ _).alloc (Nat.le_refl _) _).trans (hb1.mono (by simp)))), rfl⟩
  | false =>
    have ht := fun w => truth_any false w
    rw [if_neg (by decide)] at ht
    have HT := Lib.hid ht
    clear ht
    go_enter Tryd.func74, Tryd.ntmps74
    go_wp2_with (go_at_call 106; refine (HT.out _).mono ?_; rintro e w1 ⟨rfl, hb1⟩; obtain ⟨hc1, hf1⟩ := bcell hb1; have hz1 : w.heap.size < w1.heap.size := (by have := hb1.size; (try simp at this); omega))
    exact bodyPost_ret (v := .agg #[.string ⟨#[98, 111, 111, 108]⟩, .int .i64 (0), .int .u64 (0), .float .f64 (0), .string ⟨#[]⟩]) (by simp [results, go_sem, hc1]) rfl ⟨_, rfl, by repeat (first | exact (Below.refl _ _).alloc (Nat.le_refl _) _ | refine Below.setCell ?_ (by simp) _ | exact (((Below.refl _ _).alloc (Nat.le_refl _) _).trans (hb1.mono (by simp)))), rfl⟩

set_option maxRecDepth 100000 in
set_option maxHeartbeats 1000000 in
theorem out_f32 (x : Nat) (hx : (Ieee.single.read x).isNaN = false) (v : Value) (w : World) (h : Rep w (.f32 x) v) :
    Calls Tryd.prog 74 #[v] w (OutPost (.f32 x) w) := by
  obtain rfl := h
  have c1 := fun W => run_wide x hx W
  have hfo : FOut (.f32 x) (Flt.up x) := by unfold FOut; rw [if_neg (by rw [show (SV.f32 x).isN32 = (Ieee.single.read x).isNaN from rfl, hx]; decide)]; rfl
  have HF := Lib.hid hfo
  clear hx hfo
  go_enter Tryd.func74, Tryd.ntmps74
  go_wp2
  exact bodyPost_ret (v := .agg #[.string ⟨#[102, 108, 111, 97, 116, 51, 50]⟩, .int .i64 (0), .int .u64 (0), .float .f64 (Flt.up x), .string ⟨#[]⟩]) (by simp [results, go_sem]) rfl ⟨_, rfl, ((Below.refl _ _).alloc (Nat.le_refl _) _), HF.out⟩

theorem nan64_lt (W : World) (f : Nat) : nan64 W f < 18446744073709551616 := by
  unfold nan64 Question.cut
  generalize W.tape W.drawn (.nanConv .f64 f) = t
  simp only [Nat.reducePow, Nat.reduceSub]
  have hp : t % 2 = 0 ∨ t % 2 = 1 := by omega
  rcases hp with h | h <;> rw [h] <;> omega

set_option maxRecDepth 100000 in
set_option maxHeartbeats 1000000 in
theorem out_f32_nan (x : Nat) (hx : (Ieee.single.read x).isNaN = true) (v : Value) (w : World) (h : Rep w (.f32 x) v) :
    Calls Tryd.prog 74 #[v] w (OutPost (.f32 x) w) := by
  obtain rfl := h
  have c1 := fun W => run_nan64 x hx W
  have hfo : ∀ W, FOut (.f32 x) (nan64 W x) := fun W => by unfold FOut; rw [if_pos (by rw [show (SV.f32 x).isN32 = (Ieee.single.read x).isNaN from rfl, hx])]; exact ⟨isNaN_nan64 _ _, nan64_lt _ _⟩
  have HF := Lib.hid hfo
  clear hx hfo
  go_enter Tryd.func74, Tryd.ntmps74
  go_wp2
  exact bodyPost_ret (v := .agg #[.string ⟨#[102, 108, 111, 97, 116, 51, 50]⟩, .int .i64 (0), .int .u64 (0), .float .f64 (nan64 (w.alloc (.cells #[.string ⟨#[]⟩, .int .i64 0, .int .u64 0, .float .f64 0, .string ⟨#[]⟩] 58)) x), .string ⟨#[]⟩]) (by simp [results, go_sem]) rfl ⟨_, rfl, ((Below.refl _ _).alloc (Nat.le_refl _) _).drew, HF.out _⟩

set_option maxRecDepth 100000 in
set_option maxHeartbeats 1000000 in
theorem out_blob (l : List UInt8) (v : Value) (w : World) (h : Rep w (.blob l) v) :
    Calls Tryd.prog 74 #[v] w (OutPost (.blob l) w) := by
  obtain ⟨a, cap, rfl, hlt, hcell⟩ := h
  have c1 : ∀ o, (convert 202 9 (.slice (some a) l.length cap)).run Tryd.prog (w.alloc o) = .ok (.string ⟨l.toArray⟩) (w.alloc o) := fun o =>
    run_convert_bytes_back (w.alloc o) 202 9 5 a cap l Tryd.underlying202 Tryd.underlying5 Tryd.underlying9 (fun j hj => by
      rw [World.cell?_alloc_lt w o (a.add j) (by rw [show (a.add j).block = a.block from by unfold Addr.add; split <;> rfl]; exact hlt)]
      exact hcell j hj)
  clear hlt hcell
  go_enter Tryd.func74, Tryd.ntmps74
  go_wp2
  exact bodyPost_ret (v := .agg #[.string ⟨#[98, 108, 111, 98]⟩, .int .i64 (0), .int .u64 (0), .float .f64 (0), .string ⟨l.toArray⟩]) (by simp [results, go_sem]) rfl ⟨_, rfl, ((Below.refl _ _).alloc (Nat.le_refl _) _), rfl⟩

end Go.Proofs.YtffgkocokkhahaaDoor
