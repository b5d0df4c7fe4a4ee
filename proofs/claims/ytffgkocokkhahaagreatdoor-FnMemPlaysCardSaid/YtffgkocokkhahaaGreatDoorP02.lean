/-
  The walk of impl.out: a value of the program as plain data. PRINTED BY wip/tpl/gen_out.py. || impl.out at every value; laws.same; ql.ideal, impl.Ideal, laws.ideals. PRINTED BY wip/tpl/gen_out2.py. || impl.outs: values of ql as plain data, each by itself. || The package-level error of division by zero, and the number that an error gets: not 0. It needs that the variable holds what the program's text lays into it. || impl.fault, deferred, in a frame that returns: recover finds nothing. || An argument of type impl.Value, opened to its five fields. || An argument of type []impl.Value opened to its values' fields.
-/
import Derived.Test.YtffgkocokkhahaaGreatDoorConc
import Derived.Test.YtffgkocokkhahaaGreatDoorAs
import Derived.Deep.RegionWith
import Derived.Test.YtffgkocokkhahaaGreatDoorSl4
import Derived.Test.YtffgkocokkhahaaGreatDoorPg
import Derived.LaidEql
import Derived.Test.YtffgkocokkhahaaGreatDoorBase
import Derived.Defers
import Derived.Recover
import Derived.Test.YtffgkocokkhahaaGreatDoorIn
import Derived.ProofKit
import Derived.OpenShut
import Derived.ShutString
import Derived.ChangeOld
import Derived.Below
import Derived.Laws.Cover2
import Derived.Deep.Slices
import Derived.Deep.Fields
import Derived.Test.YtffgkocokkhahaaGreatDoorSl
import Derived.ChangeSame
import Derived.Lib.SmallJoins

/- The walk of impl.out: a value of the program as plain data. PRINTED BY wip/tpl/gen_out.py. -/
namespace Go.Proofs.YtffgkocokkhahaaGreatDoor
open Go.RowKit

/-- The name of a value's kind. -/
def SV.nm : SV → ByteArray
  | .null => ⟨#[]⟩
  | .bool _ => ⟨#[98, 111, 111, 108]⟩
  | .int .i8 _ => ⟨#[105, 110, 116, 56]⟩
  | .int .i16 _ => ⟨#[105, 110, 116, 49, 54]⟩
  | .int .i32 _ => ⟨#[105, 110, 116, 51, 50]⟩
  | .int .i64 _ => ⟨#[105, 110, 116, 54, 52]⟩
  | .int .u8 _ => ⟨#[117, 105, 110, 116, 56]⟩
  | .int .u16 _ => ⟨#[117, 105, 110, 116, 49, 54]⟩
  | .int .u32 _ => ⟨#[117, 105, 110, 116, 51, 50]⟩
  | .int .u64 _ => ⟨#[117, 105, 110, 116, 54, 52]⟩
  | .f32 _ => ⟨#[102, 108, 111, 97, 116, 51, 50]⟩
  | .f64 _ => ⟨#[102, 108, 111, 97, 116, 54, 52]⟩
  | .str _ => ⟨#[115, 116, 114, 105, 110, 103]⟩
  | .blob _ => ⟨#[98, 108, 111, 98]⟩
  | .iInt _ => ⟨#[105, 100, 101, 97, 108, 73, 110, 116]⟩
  | .iRune _ => ⟨#[105, 100, 101, 97, 108, 82, 117, 110, 101]⟩
  | .iUint _ => ⟨#[105, 100, 101, 97, 108, 85, 105, 110, 116]⟩
  | .iFloat _ => ⟨#[105, 100, 101, 97, 108, 70, 108, 111, 97, 116]⟩
def SV.oN : SV → Int
  | .bool b => if b = true then 1 else 0
  | .int k n => if k.signed = true then n else 0
  | .iInt n | .iRune n => n
  | _ => 0
def SV.oU : SV → Int
  | .int k n => if k.signed = true then 0 else n
  | .iUint n => n
  | _ => 0
def SV.oF : SV → Nat
  | .f32 x => Flt.up x
  | .f64 x | .iFloat x => x
  | _ => 0
def SV.oS : SV → ByteArray
  | .str s => s
  | .blob l => ⟨l.toArray⟩
  | _ => ⟨#[]⟩
def SV.isN32 : SV → Bool
  | .f32 x => (Ieee.single.read x).isNaN
  | _ => false

/-- The float that comes out: of a float32 that is no number some one that is none. -/
def FOut (x : SV) (f : Nat) : Prop := if x.isN32 = true then (Ieee.double.read f).isNaN = true ∧ f < 18446744073709551616 else f = x.oF

def OutPost (x : SV) (w : World) (e : Ending) (w' : World) : Prop :=
  ∃ f, e = .returned (.agg #[.string x.nm, .int .i64 x.oN, .int .u64 x.oU, .float .f64 f, .string x.oS]) ∧ Below w.heap.size w w' ∧ FOut x f

set_option maxRecDepth 100000 in
set_option maxHeartbeats 1000000 in
theorem truth_any (b : Bool) (w : World) :
    Calls Tryz.prog 105 #[.bool b] w fun e w' => e = .returned (.agg #[.string ⟨#[98, 111, 111, 108]⟩, .int .i64 (if b = true then 1 else 0), .int .u64 (0), .float .f64 (0), .string ⟨#[]⟩]) ∧ Below w.heap.size w w' := by
  cases b with
  | true =>
    go_enter Tryz.func105, Tryz.ntmps105
    go_wp2
    exact bodyPost_ret (v := .agg #[.string ⟨#[98, 111, 111, 108]⟩, .int .i64 (1), .int .u64 (0), .float .f64 (0), .string ⟨#[]⟩]) (by simp [results, go_sem]) rfl ⟨rfl, ((Below.refl _ _).alloc (Nat.le_refl _) _).alloc (by simp) _⟩
  | false =>
    go_enter Tryz.func105, Tryz.ntmps105
    go_wp2
    exact bodyPost_ret (v := .agg #[.string ⟨#[98, 111, 111, 108]⟩, .int .i64 (0), .int .u64 (0), .float .f64 (0), .string ⟨#[]⟩]) (by simp [results, go_sem]) rfl ⟨rfl, ((Below.refl _ _).alloc (Nat.le_refl _) _).alloc (by simp) _⟩

theorem results_tmp4 {fn : Func} {t u v x : Tmp} (h : fn.results = #[.tmp t, .tmp u, .tmp v, .tmp x]) (tmps : Array Value) (P : Program) (w : World) :
    (results fn tmps).run P w = .ok (.tuple #[tmps.getD t undef, tmps.getD u undef, tmps.getD v undef, tmps.getD x undef]) w := by simp [results, h]

set_option maxRecDepth 100000 in
set_option maxHeartbeats 1000000 in
theorem lit_null  (w : World) :
    Calls Tryz.prog 106 #[.nilIface] w fun e w' => e = .returned (.tuple #[.int .i64 0, .int .i64 0, .int .u64 0, .float .f64 0]) ∧ w = w' := by
  go_enter Tryz.func106, Tryz.ntmps106
  go_wp2
  refine bodyPost_ret (results_tmp4 rfl _ _ _) rfl ?_
  exact ⟨rfl, rfl⟩

set_option maxRecDepth 100000 in
set_option maxHeartbeats 1000000 in
theorem lit_iInt (n : Int) (w : World) :
    Calls Tryz.prog 106 #[.iface 198 (.int .i64 n)] w fun e w' => e = .returned (.tuple #[.int .i64 1, .int .i64 n, .int .u64 0, .float .f64 0]) ∧ w = w' := by
  go_enter Tryz.func106, Tryz.ntmps106
  go_wp2
  refine bodyPost_ret (results_tmp4 rfl _ _ _) rfl ?_
  exact ⟨rfl, rfl⟩

set_option maxRecDepth 100000 in
set_option maxHeartbeats 1000000 in
theorem lit_iRune (n : Int) (hw : wrap64 n = n) (w : World) :
    Calls Tryz.prog 106 #[.iface 199 (.int .i32 n)] w fun e w' => e = .returned (.tuple #[.int .i64 2, .int .i64 n, .int .u64 0, .float .f64 0]) ∧ w = w' := by
  go_enter Tryz.func106, Tryz.ntmps106
  go_wp2
  refine bodyPost_ret (results_tmp4 rfl _ _ _) rfl ?_
  exact ⟨congrArg (fun m => Ending.returned (.tuple #[.int .i64 2, .int .i64 m, .int .u64 0, .float .f64 0])) hw, rfl⟩

set_option maxRecDepth 100000 in
set_option maxHeartbeats 1000000 in
theorem lit_iUint (n : Int) (w : World) :
    Calls Tryz.prog 106 #[.iface 200 (.int .u64 n)] w fun e w' => e = .returned (.tuple #[.int .i64 3, .int .i64 0, .int .u64 n, .float .f64 0]) ∧ w = w' := by
  go_enter Tryz.func106, Tryz.ntmps106
  go_wp2
  refine bodyPost_ret (results_tmp4 rfl _ _ _) rfl ?_
  exact ⟨rfl, rfl⟩

set_option maxRecDepth 100000 in
set_option maxHeartbeats 1000000 in
theorem lit_iFloat (x : Nat) (w : World) :
    Calls Tryz.prog 106 #[.iface 197 (.float .f64 x)] w fun e w' => e = .returned (.tuple #[.int .i64 4, .int .i64 0, .int .u64 0, .float .f64 x]) ∧ w = w' := by
  go_enter Tryz.func106, Tryz.ntmps106
  go_wp2
  refine bodyPost_ret (results_tmp4 rfl _ _ _) rfl ?_
  exact ⟨rfl, rfl⟩

set_option maxRecDepth 100000 in
set_option maxHeartbeats 1000000 in
theorem out_null  (v : Value) (w : World) (h : Rep w (.null) v) :
    Calls Tryz.prog 81 #[v] w (OutPost (.null) w) := by
  obtain rfl := h
  go_enter Tryz.func81, Tryz.ntmps81
  go_wp2_with (go_at_call 106; refine (lit_null _).mono ?_; rintro e w1 ⟨rfl, rfl⟩)
  exact bodyPost_ret (v := .agg #[.string ⟨#[]⟩, .int .i64 (0), .int .u64 (0), .float .f64 (0), .string ⟨#[]⟩]) (by simp [results, go_sem]) rfl ⟨_, rfl, by repeat (first | exact (Below.refl _ _).alloc (Nat.le_refl _) _ | refine Below.drew ?_ | refine Below.alloc ?_ (by simp) _ | refine Below.setCell ?_ (by simp) _), rfl⟩

set_option maxRecDepth 100000 in
set_option maxHeartbeats 1000000 in
theorem out_iInt (n : Int) (v : Value) (w : World) (h : Rep w (.iInt n) v) :
    Calls Tryz.prog 81 #[v] w (OutPost (.iInt n) w) := by
  obtain rfl := h
  go_enter Tryz.func81, Tryz.ntmps81
  go_wp2_with (go_at_call 106; refine (lit_iInt n _).mono ?_; rintro e w1 ⟨rfl, rfl⟩)
  exact bodyPost_ret (v := .agg #[.string ⟨#[105, 100, 101, 97, 108, 73, 110, 116]⟩, .int .i64 (n), .int .u64 (0), .float .f64 (0), .string ⟨#[]⟩]) (by simp [results, go_sem]) rfl ⟨_, rfl, by repeat (first | exact (Below.refl _ _).alloc (Nat.le_refl _) _ | refine Below.drew ?_ | refine Below.alloc ?_ (by simp) _ | refine Below.setCell ?_ (by simp) _), rfl⟩

set_option maxRecDepth 100000 in
set_option maxHeartbeats 1000000 in
theorem out_iRune (n : Int) (v : Value) (w : World) (hw : wrap64 n = n) (h : Rep w (.iRune n) v) :
    Calls Tryz.prog 81 #[v] w (OutPost (.iRune n) w) := by
  obtain rfl := h
  go_enter Tryz.func81, Tryz.ntmps81
  go_wp2_with (go_at_call 106; refine (lit_iRune n hw _).mono ?_; rintro e w1 ⟨rfl, rfl⟩)
  exact bodyPost_ret (v := .agg #[.string ⟨#[105, 100, 101, 97, 108, 82, 117, 110, 101]⟩, .int .i64 (n), .int .u64 (0), .float .f64 (0), .string ⟨#[]⟩]) (by simp [results, go_sem]) rfl ⟨_, rfl, by repeat (first | exact (Below.refl _ _).alloc (Nat.le_refl _) _ | refine Below.drew ?_ | refine Below.alloc ?_ (by simp) _ | refine Below.setCell ?_ (by simp) _), rfl⟩

set_option maxRecDepth 100000 in
set_option maxHeartbeats 1000000 in
theorem out_iUint (n : Int) (v : Value) (w : World) (h : Rep w (.iUint n) v) :
    Calls Tryz.prog 81 #[v] w (OutPost (.iUint n) w) := by
  obtain rfl := h
  go_enter Tryz.func81, Tryz.ntmps81
  go_wp2_with (go_at_call 106; refine (lit_iUint n _).mono ?_; rintro e w1 ⟨rfl, rfl⟩)
  exact bodyPost_ret (v := .agg #[.string ⟨#[105, 100, 101, 97, 108, 85, 105, 110, 116]⟩, .int .i64 (0), .int .u64 (n), .float .f64 (0), .string ⟨#[]⟩]) (by simp [results, go_sem]) rfl ⟨_, rfl, by repeat (first | exact (Below.refl _ _).alloc (Nat.le_refl _) _ | refine Below.drew ?_ | refine Below.alloc ?_ (by simp) _ | refine Below.setCell ?_ (by simp) _), rfl⟩

set_option maxRecDepth 100000 in
set_option maxHeartbeats 1000000 in
theorem out_iFloat (x : Nat) (v : Value) (w : World) (h : Rep w (.iFloat x) v) :
    Calls Tryz.prog 81 #[v] w (OutPost (.iFloat x) w) := by
  obtain rfl := h
  go_enter Tryz.func81, Tryz.ntmps81
  go_wp2_with (go_at_call 106; refine (lit_iFloat x _).mono ?_; rintro e w1 ⟨rfl, rfl⟩)
  exact bodyPost_ret (v := .agg #[.string ⟨#[105, 100, 101, 97, 108, 70, 108, 111, 97, 116]⟩, .int .i64 (0), .int .u64 (0), .float .f64 (x), .string ⟨#[]⟩]) (by simp [results, go_sem]) rfl ⟨_, rfl, by repeat (first | exact (Below.refl _ _).alloc (Nat.le_refl _) _ | refine Below.drew ?_ | refine Below.alloc ?_ (by simp) _ | refine Below.setCell ?_ (by simp) _), rfl⟩

set_option maxRecDepth 100000 in
set_option maxHeartbeats 1000000 in
theorem out_i8 (n : Int) (v : Value) (w : World) (hw : wrap64 n = n) (h : Rep w (.int .i8 n) v) :
    Calls Tryz.prog 81 #[v] w (OutPost (.int .i8 n) w) := by
  obtain rfl := h
  simp only [kindT]
  go_enter Tryz.func81, Tryz.ntmps81
  go_wp2
  exact bodyPost_ret (v := .agg #[.string ⟨#[105, 110, 116, 56]⟩, .int .i64 (n), .int .u64 (0), .float .f64 (0), .string ⟨#[]⟩]) (by simp [results, go_sem]) rfl ⟨_, rfl, ((Below.refl _ _).alloc (Nat.le_refl _) _), rfl⟩

set_option maxRecDepth 100000 in
set_option maxHeartbeats 1000000 in
theorem out_i16 (n : Int) (v : Value) (w : World) (hw : wrap64 n = n) (h : Rep w (.int .i16 n) v) :
    Calls Tryz.prog 81 #[v] w (OutPost (.int .i16 n) w) := by
  obtain rfl := h
  simp only [kindT]
  go_enter Tryz.func81, Tryz.ntmps81
  go_wp2
  exact bodyPost_ret (v := .agg #[.string ⟨#[105, 110, 116, 49, 54]⟩, .int .i64 (n), .int .u64 (0), .float .f64 (0), .string ⟨#[]⟩]) (by simp [results, go_sem]) rfl ⟨_, rfl, ((Below.refl _ _).alloc (Nat.le_refl _) _), rfl⟩

set_option maxRecDepth 100000 in
set_option maxHeartbeats 1000000 in
theorem out_i32 (n : Int) (v : Value) (w : World) (hw : wrap64 n = n) (h : Rep w (.int .i32 n) v) :
    Calls Tryz.prog 81 #[v] w (OutPost (.int .i32 n) w) := by
  obtain rfl := h
  simp only [kindT]
  go_enter Tryz.func81, Tryz.ntmps81
  go_wp2
  exact bodyPost_ret (v := .agg #[.string ⟨#[105, 110, 116, 51, 50]⟩, .int .i64 (n), .int .u64 (0), .float .f64 (0), .string ⟨#[]⟩]) (by simp [results, go_sem]) rfl ⟨_, rfl, ((Below.refl _ _).alloc (Nat.le_refl _) _), rfl⟩

set_option maxRecDepth 100000 in
set_option maxHeartbeats 1000000 in
theorem out_i64 (n : Int) (v : Value) (w : World) (h : Rep w (.int .i64 n) v) :
    Calls Tryz.prog 81 #[v] w (OutPost (.int .i64 n) w) := by
  obtain rfl := h
  simp only [kindT]
  go_enter Tryz.func81, Tryz.ntmps81
  go_wp2
  exact bodyPost_ret (v := .agg #[.string ⟨#[105, 110, 116, 54, 52]⟩, .int .i64 (n), .int .u64 (0), .float .f64 (0), .string ⟨#[]⟩]) (by simp [results, go_sem]) rfl ⟨_, rfl, ((Below.refl _ _).alloc (Nat.le_refl _) _), rfl⟩

set_option maxRecDepth 100000 in
set_option maxHeartbeats 1000000 in
theorem out_u8 (n : Int) (v : Value) (w : World) (hw : IntKind.u64.wrap n = n) (h : Rep w (.int .u8 n) v) :
    Calls Tryz.prog 81 #[v] w (OutPost (.int .u8 n) w) := by
  obtain rfl := h
  simp only [kindT]
  go_enter Tryz.func81, Tryz.ntmps81
  go_wp2
  exact bodyPost_ret (v := .agg #[.string ⟨#[117, 105, 110, 116, 56]⟩, .int .i64 (0), .int .u64 (n), .float .f64 (0), .string ⟨#[]⟩]) (by simp [results, go_sem]) rfl ⟨_, rfl, ((Below.refl _ _).alloc (Nat.le_refl _) _), rfl⟩

set_option maxRecDepth 100000 in
set_option maxHeartbeats 1000000 in
theorem out_u16 (n : Int) (v : Value) (w : World) (hw : IntKind.u64.wrap n = n) (h : Rep w (.int .u16 n) v) :
    Calls Tryz.prog 81 #[v] w (OutPost (.int .u16 n) w) := by
  obtain rfl := h
  simp only [kindT]
  go_enter Tryz.func81, Tryz.ntmps81
  go_wp2
  exact bodyPost_ret (v := .agg #[.string ⟨#[117, 105, 110, 116, 49, 54]⟩, .int .i64 (0), .int .u64 (n), .float .f64 (0), .string ⟨#[]⟩]) (by simp [results, go_sem]) rfl ⟨_, rfl, ((Below.refl _ _).alloc (Nat.le_refl _) _), rfl⟩

set_option maxRecDepth 100000 in
set_option maxHeartbeats 1000000 in
theorem out_u32 (n : Int) (v : Value) (w : World) (hw : IntKind.u64.wrap n = n) (h : Rep w (.int .u32 n) v) :
    Calls Tryz.prog 81 #[v] w (OutPost (.int .u32 n) w) := by
  obtain rfl := h
  simp only [kindT]
  go_enter Tryz.func81, Tryz.ntmps81
  go_wp2
  exact bodyPost_ret (v := .agg #[.string ⟨#[117, 105, 110, 116, 51, 50]⟩, .int .i64 (0), .int .u64 (n), .float .f64 (0), .string ⟨#[]⟩]) (by simp [results, go_sem]) rfl ⟨_, rfl, ((Below.refl _ _).alloc (Nat.le_refl _) _), rfl⟩

set_option maxRecDepth 100000 in
set_option maxHeartbeats 1000000 in
theorem out_u64 (n : Int) (v : Value) (w : World) (h : Rep w (.int .u64 n) v) :
    Calls Tryz.prog 81 #[v] w (OutPost (.int .u64 n) w) := by
  obtain rfl := h
  simp only [kindT]
  go_enter Tryz.func81, Tryz.ntmps81
  go_wp2
  exact bodyPost_ret (v := .agg #[.string ⟨#[117, 105, 110, 116, 54, 52]⟩, .int .i64 (0), .int .u64 (n), .float .f64 (0), .string ⟨#[]⟩]) (by simp [results, go_sem]) rfl ⟨_, rfl, ((Below.refl _ _).alloc (Nat.le_refl _) _), rfl⟩

set_option maxRecDepth 100000 in
set_option maxHeartbeats 1000000 in
theorem out_f64 (x : Nat) (v : Value) (w : World) (h : Rep w (.f64 x) v) :
    Calls Tryz.prog 81 #[v] w (OutPost (.f64 x) w) := by
  obtain rfl := h
  go_enter Tryz.func81, Tryz.ntmps81
  go_wp2
  exact bodyPost_ret (v := .agg #[.string ⟨#[102, 108, 111, 97, 116, 54, 52]⟩, .int .i64 (0), .int .u64 (0), .float .f64 (x), .string ⟨#[]⟩]) (by simp [results, go_sem]) rfl ⟨_, rfl, ((Below.refl _ _).alloc (Nat.le_refl _) _), rfl⟩

set_option maxRecDepth 100000 in
set_option maxHeartbeats 1000000 in
theorem out_str (s : ByteArray) (v : Value) (w : World) (h : Rep w (.str s) v) :
    Calls Tryz.prog 81 #[v] w (OutPost (.str s) w) := by
  obtain rfl := h
  go_enter Tryz.func81, Tryz.ntmps81
  go_wp2
  exact bodyPost_ret (v := .agg #[.string ⟨#[115, 116, 114, 105, 110, 103]⟩, .int .i64 (0), .int .u64 (0), .float .f64 (0), .string s]) (by simp [results, go_sem]) rfl ⟨_, rfl, ((Below.refl _ _).alloc (Nat.le_refl _) _), rfl⟩

set_option maxRecDepth 100000 in
set_option maxHeartbeats 1000000 in
theorem out_bool (b : Bool) (v : Value) (w : World) (h : Rep w (.bool b) v) :
    Calls Tryz.prog 81 #[v] w (OutPost (.bool b) w) := by
  obtain rfl := h
  cases b with
  | true =>
    have ht := fun w => truth_any true w
    rw [if_pos rfl] at ht
    have HT := Lib.hid ht
    clear ht
    go_enter Tryz.func81, Tryz.ntmps81
    go_wp2_with (go_at_call 105; refine (HT.out _).mono ?_; rintro e w1 ⟨rfl, hb1⟩; obtain ⟨hc1, hf1⟩ := bcell hb1; have hz1 : w.heap.size < w1.heap.size := (by have := hb1.size; (try simp at this); omega))
    exact bodyPost_ret (v := .agg #[.string ⟨#[98, 111, 111, 108]⟩, .int .i64 (1), .int .u64 (0), .float .f64 (0), .string ⟨#[]⟩]) (by simp [results, go_sem, hc1]) rfl ⟨_, rfl, by repeat (first | exact (Below.refl _ _).alloc (Nat.le_refl _) _ | refine Below.setCell ?_ (by simp) _ | exact (((Below.refl _ _).alloc (Nat.le_refl _) _).trans (hb1.mono (by simp)))), rfl⟩
  | false =>
    have ht := fun w => truth_any false w
    rw [if_neg (by decide)] at ht
    have HT := Lib.hid ht
    clear ht
    go_enter Tryz.func81, Tryz.ntmps81
    go_wp2_with (go_at_call 105; refine (HT.out _).mono ?_; rintro e w1 ⟨rfl, hb1⟩; obtain ⟨hc1, hf1⟩ := bcell hb1; have hz1 : w.heap.size < w1.heap.size := (by have := hb1.size; (try simp at this); omega))
    exact bodyPost_ret (v := .agg #[.string ⟨#[98, 111, 111, 108]⟩, .int .i64 (0), .int .u64 (0), .float .f64 (0), .string ⟨#[]⟩]) (by simp [results, go_sem, hc1]) rfl ⟨_, rfl, by repeat (first | exact (Below.refl _ _).alloc (Nat.le_refl _) _ | refine Below.setCell ?_ (by simp) _ | exact (((Below.refl _ _).alloc (Nat.le_refl _) _).trans (hb1.mono (by simp)))), rfl⟩

set_option maxRecDepth 100000 in
set_option maxHeartbeats 1000000 in
theorem out_f32 (x : Nat) (hx : (Ieee.single.read x).isNaN = false) (v : Value) (w : World) (h : Rep w (.f32 x) v) :
    Calls Tryz.prog 81 #[v] w (OutPost (.f32 x) w) := by
  obtain rfl := h
  have c1 := fun W => run_wide x hx W
  have hfo : FOut (.f32 x) (Flt.up x) := by unfold FOut; rw [if_neg (by rw [show (SV.f32 x).isN32 = (Ieee.single.read x).isNaN from rfl, hx]; decide)]; rfl
  have HF := Lib.hid hfo
  clear hx hfo
  go_enter Tryz.func81, Tryz.ntmps81
  go_wp2
  exact bodyPost_ret (v := .agg #[.string ⟨#[102, 108, 111, 97, 116, 51, 50]⟩, .int .i64 (0), .int .u64 (0), .float .f64 (Flt.up x), .string ⟨#[]⟩]) (by simp [results, go_sem]) rfl ⟨_, rfl, ((Below.refl _ _).alloc (Nat.le_refl _) _), HF.out⟩

theorem nan64_lt (W : World) (f : Nat) : nan64 W f < 18446744073709551616 := by
  unfold nan64 Question.cut
  generalize W.tape W.drawn (.nanConv .f64 f) = t
  simp only [Nat.reducePow, Nat.reduceSub]
  have hp : t % 2 = 0 ∨ t % 2 = 1 := by omega
  rcases hp with h | h <;> rw [h] <;> omega

set_option maxRecDepth 100000 in
set_option maxHeartbeats 1000000 in
theorem out_f32_nan (x : Nat) (hx : (Ieee.single.read x).isNaN = true) (v : Value) (w : World) (h : Rep w (.f32 x) v) :
    Calls Tryz.prog 81 #[v] w (OutPost (.f32 x) w) := by
  obtain rfl := h
  have c1 := fun W => run_nan64 x hx W
  have hfo : ∀ W, FOut (.f32 x) (nan64 W x) := fun W => by unfold FOut; rw [if_pos (by rw [show (SV.f32 x).isN32 = (Ieee.single.read x).isNaN from rfl, hx])]; exact ⟨isNaN_nan64 _ _, nan64_lt _ _⟩
  have HF := Lib.hid hfo
  clear hx hfo
  go_enter Tryz.func81, Tryz.ntmps81
  go_wp2
  exact bodyPost_ret (v := .agg #[.string ⟨#[102, 108, 111, 97, 116, 51, 50]⟩, .int .i64 (0), .int .u64 (0), .float .f64 (nan64 (w.alloc (.cells #[.string ⟨#[]⟩, .int .i64 0, .int .u64 0, .float .f64 0, .string ⟨#[]⟩] 57)) x), .string ⟨#[]⟩]) (by simp [results, go_sem]) rfl ⟨_, rfl, ((Below.refl _ _).alloc (Nat.le_refl _) _).drew, HF.out _⟩

set_option maxRecDepth 100000 in
set_option maxHeartbeats 1000000 in
theorem out_blob (l : List UInt8) (v : Value) (w : World) (h : Rep w (.blob l) v) :
    Calls Tryz.prog 81 #[v] w (OutPost (.blob l) w) := by
  obtain ⟨a, cap, rfl, hlt, hcell⟩ := h
  have c1 : ∀ o, (convert 188 9 (.slice (some a) l.length cap)).run Tryz.prog (w.alloc o) = .ok (.string ⟨l.toArray⟩) (w.alloc o) := fun o =>
    run_convert_bytes_back (w.alloc o) 188 9 5 a cap l Tryz.underlying188 Tryz.underlying5 Tryz.underlying9 (fun j hj => by
      rw [World.cell?_alloc_lt w o (a.add j) (by rw [show (a.add j).block = a.block from by unfold Addr.add; split <;> rfl]; exact hlt)]
      exact hcell j hj)
  clear hlt hcell
  go_enter Tryz.func81, Tryz.ntmps81
  go_wp2
  exact bodyPost_ret (v := .agg #[.string ⟨#[98, 108, 111, 98]⟩, .int .i64 (0), .int .u64 (0), .float .f64 (0), .string ⟨l.toArray⟩]) (by simp [results, go_sem]) rfl ⟨_, rfl, ((Below.refl _ _).alloc (Nat.le_refl _) _), rfl⟩

end Go.Proofs.YtffgkocokkhahaaGreatDoor

/- impl.out at every value; laws.same; ql.ideal, impl.Ideal, laws.ideals. PRINTED BY wip/tpl/gen_out2.py. -/
namespace Go.Proofs.YtffgkocokkhahaaGreatDoor
open Go.RowKit


/-- What is in a value fits. -/
def SV.wf : SV → Prop
  | .int k n => k.min ≤ n ∧ n ≤ k.max
  | .iInt n => IntKind.i64.min ≤ n ∧ n ≤ IntKind.i64.max
  | .iRune n => IntKind.i32.min ≤ n ∧ n ≤ IntKind.i32.max
  | .iUint n => IntKind.u64.min ≤ n ∧ n ≤ IntKind.u64.max
  | .f32 x => x < 4294967296
  | .f64 x | .iFloat x => x < 18446744073709551616
  | _ => True

theorem wrap64_of {n : Int} (h1 : -9223372036854775808 ≤ n) (h2 : n ≤ 9223372036854775807) : wrap64 n = n := by unfold wrap64; omega

theorem out_any (x : SV) (hx : x.wf) (v : Value) (w : World) (h : Rep w x v) : Calls Tryz.prog 81 #[v] w (OutPost x w) := by
  cases x with
  | null => exact out_null v w h
  | bool b => exact out_bool b v w h
  | f32 x =>
    cases hn : (Ieee.single.read x).isNaN with
    | true => exact out_f32_nan x hn v w h
    | false => exact out_f32 x hn v w h
  | f64 x => exact out_f64 x v w h
  | str s => exact out_str s v w h
  | blob l => exact out_blob l v w h
  | iInt n => exact out_iInt n v w h
  | iUint n => exact out_iUint n v w h
  | iFloat x => exact out_iFloat x v w h
  | iRune n =>
    obtain ⟨h1, h2⟩ := hx
    simp only [IntKind.min, IntKind.max, IntKind.signed, IntKind.bits, if_true, Nat.reduceSub, Int.reducePow, Int.reduceSub] at h1 h2
    exact out_iRune n v w (wrap64_of (by omega) (by omega)) h
  | int q n =>
    obtain ⟨h1, h2⟩ := hx
    cases q <;> simp only [IntKind.min, IntKind.max, IntKind.signed, IntKind.bits, if_true, if_false, Bool.false_eq_true, Nat.reduceSub, Int.reducePow, Int.reduceSub] at h1 h2
    case i8 => exact out_i8 n v w (wrap64_of (by omega) (by omega)) h
    case i16 => exact out_i16 n v w (wrap64_of (by omega) (by omega)) h
    case i32 => exact out_i32 n v w (wrap64_of (by omega) (by omega)) h
    case i64 => exact out_i64 n v w h
    case u8 => exact out_u8 n v w (wrap_i (by simp [IntKind.min, IntKind.signed]; omega) (by simp [IntKind.max, IntKind.signed, IntKind.bits]; omega)) h
    case u16 => exact out_u16 n v w (wrap_i (by simp [IntKind.min, IntKind.signed]; omega) (by simp [IntKind.max, IntKind.signed, IntKind.bits]; omega)) h
    case u32 => exact out_u32 n v w (wrap_i (by simp [IntKind.min, IntKind.signed]; omega) (by simp [IntKind.max, IntKind.signed, IntKind.bits]; omega)) h
    case u64 => exact out_u64 n v w h

/-- What 'same' tells. -/
def sameB (k : ByteArray) (n u : Int) (f : Nat) (s : ByteArray) (k' : ByteArray) (n' u' : Int) (f' : Nat) (s' : ByteArray) : Bool :=
  k.toList == k'.toList && n == n' && u == u' && (bitsV f : Int) == bitsV f' && s.toList == s'.toList

set_option maxRecDepth 100000 in
set_option maxHeartbeats 1000000 in
theorem same_any (k : ByteArray) (n u : Int) (f : Nat) (s : ByteArray) (k' : ByteArray) (n' u' : Int) (f' : Nat) (s' : ByteArray) (w : World) :
    Calls Tryz.prog 32 #[.agg #[.string k, .int .i64 n, .int .u64 u, .float .f64 f, .string s], .agg #[.string k', .int .i64 n', .int .u64 u', .float .f64 f', .string s']] w fun e w' => e = .returned (.bool (sameB k n u f s k' n' u' f' s')) ∧ Below w.heap.size w w' := by
  cases h1 : (k.toList == k'.toList) with
  | false =>
    have hv : sameB k n u f s k' n' u' f' s' = false := by unfold sameB; rw [h1]; rfl
    rw [hv]
    clear hv
    go_enter Tryz.func32, Tryz.ntmps32
    go_wp2
    go_quiet ((go_at_call 62; exact quiet_of_left (bits_any _ _)))
    go_wp2
    go_ret
    exact ⟨rfl, below_drewN (((Below.refl _ _).alloc (Nat.le_refl _) _).alloc (by simp) _) _⟩
  | true =>
    cases h2 : (n == n') with
    | false =>
      have hv : sameB k n u f s k' n' u' f' s' = false := by unfold sameB; rw [h1]; rw [h2]; simp
      rw [hv]
      clear hv
      go_enter Tryz.func32, Tryz.ntmps32
      go_wp2
      go_quiet ((go_at_call 62; exact quiet_of_left (bits_any _ _)))
      go_wp2
      go_ret
      exact ⟨rfl, below_drewN (((Below.refl _ _).alloc (Nat.le_refl _) _).alloc (by simp) _) _⟩
    | true =>
      cases h3 : (u == u') with
      | false =>
        have hv : sameB k n u f s k' n' u' f' s' = false := by unfold sameB; rw [h1]; rw [h2]; rw [h3]; simp
        rw [hv]
        clear hv
        go_enter Tryz.func32, Tryz.ntmps32
        go_wp2
        go_quiet ((go_at_call 62; exact quiet_of_left (bits_any _ _)))
        go_wp2
        go_ret
        exact ⟨rfl, below_drewN (((Below.refl _ _).alloc (Nat.le_refl _) _).alloc (by simp) _) _⟩
      | true =>
        cases h4 : ((bitsV f : Int) == bitsV f') with
        | false =>
          have hv : sameB k n u f s k' n' u' f' s' = false := by unfold sameB; rw [h1]; rw [h2]; rw [h3]; rw [h4]; simp
          rw [hv]
          clear hv
          go_enter Tryz.func32, Tryz.ntmps32
          go_wp2
          go_quiet ((go_at_call 62; exact quiet_of_left (bits_any _ _)))
          go_wp2
          go_ret
          exact ⟨rfl, below_drewN (((Below.refl _ _).alloc (Nat.le_refl _) _).alloc (by simp) _) _⟩
        | true =>
          have hv : sameB k n u f s k' n' u' f' s' = (s.toList == s'.toList) := by unfold sameB; rw [h1]; rw [h2]; rw [h3]; rw [h4]; simp
          rw [hv]
          clear hv
          go_enter Tryz.func32, Tryz.ntmps32
          go_wp2
          go_quiet ((go_at_call 62; exact quiet_of_left (bits_any _ _)))
          go_wp2
          go_ret
          exact ⟨rfl, below_drewN (((Below.refl _ _).alloc (Nat.le_refl _) _).alloc (by simp) _) _⟩

theorem toSV_wf {kd : Kd} {n u : Int} {f : Nat} {s : ByteArray} {y : SV} (hr : Rng n u f) (hv : validB kd n u f s = true) (h : SVof kd n u f s y) : y.wf := by
  obtain ⟨r1, r2, r3, r4, r5⟩ := hr
  unfold SVof at h
  split at h
  · obtain ⟨x, rfl, _, hx⟩ := h
    exact hx
  · rename_i hne
    subst h
    cases kd with
    | int q =>
      cases q <;> simp only [validB, Bool.and_eq_true, beq_iff_eq] at hv <;> simp [toSV, SV.wf, IntKind.min, IntKind.max, IntKind.signed, IntKind.bits] <;> omega
    | iInt => simp [toSV, SV.wf, IntKind.min, IntKind.max, IntKind.signed, IntKind.bits]; omega
    | iRune => simp only [validB, Bool.and_eq_true, beq_iff_eq] at hv; simp [toSV, SV.wf, IntKind.min, IntKind.max, IntKind.signed, IntKind.bits]; omega
    | iUint => simp [toSV, SV.wf, IntKind.min, IntKind.max, IntKind.signed, IntKind.bits]; omega
    | f32 =>
      simp only [toSV, SV.wf]
      unfold Flt.down
      exact Nat.lt_of_lt_of_le (Ieee.Format.write_lt _ _) (by decide)
    | f64 => exact r5
    | iFloat => exact r5
    | _ => trivial

def idealIntS : ByteArray := ⟨#[105, 100, 101, 97, 108, 73, 110, 116]⟩

end Go.Proofs.YtffgkocokkhahaaGreatDoor

/- impl.outs: values of ql as plain data, each by itself. -/
namespace Go.Proofs.YtffgkocokkhahaaGreatDoor
open Go.RowKit

def VV.cells (x : VV) : List Value := [.string x.k, .int .i64 x.n, .int .u64 x.u, .float .f64 x.f, .string x.s]
theorem VV.cells_len (x : VV) : x.cells.length = 5 := rfl

theorem reads_one (w : World) (x : VV) (t : TypeId) : Reads (w.alloc (.cells #[.string x.k, .int .i64 x.n, .int .u64 x.u, .float .f64 x.f, .string x.s] t)) (w.heap.size + 1) 5 (some ⟨w.heap.size, 0, none⟩) 1 x.cells :=
  ⟨rfl, fun _ => ⟨_, rfl, Nat.lt_succ_self _, fun j u hu => World.news_of_block (heap_new w _) j u hu⟩⟩

theorem info_value : (Tryz.prog.info? 57).map (fun i => (i.zero, i.size, i.bytes)) = some (some (.agg #[.string ⟨#[]⟩, .int .i64 0, .int .u64 0, .float .f64 0, .string ⟨#[]⟩]), 5, 56) := by kernel_rfl

/-- What comes out of what was put in as x. -/
def OutOf (x u : VV) : Prop := ∃ y : SV, x.is y ∧ y.wf ∧ FOut y u.f ∧ u.k = y.nm ∧ u.n = y.oN ∧ u.u = y.oU ∧ u.s = y.oS

def OutsPost (l : List VV) (w : World) (e : Ending) (w' : World) : Prop :=
  ∃ A c us, e = .returned (.slice A l.length c) ∧ w'.ownsRow w.heap.size 57 5 (.slice A l.length c) l.length (flat VV.cells us) ∧ us.length = l.length ∧ (∀ (j : Nat) (x u : VV), l[j]? = some x → us[j]? = some u → OutOf x u) ∧ Below w.heap.size w w'

set_option maxHeartbeats 1000000 in
theorem outs_any (l : List VV) (A : Option Addr) (c : Nat) (vs : List Value) (w : World) (hr : Reads w w.heap.size 1 A l.length vs) (hk : RepK w l l.length vs) (hg : ∀ (j : Nat) (x : VV), l[j]? = some x → x.good) (hm : l.length ≤ 2147483647) :
    Calls Tryz.prog 56 #[.slice A l.length c] w (OutsPost l w) := by
  obtain ⟨i0, hi, hz0, hz1, hz2⟩ := info_parts info_value
  obtain ⟨len, hlen⟩ : ∃ len, len = l.length := ⟨_, rfl⟩
  have HR := Lib.hid hr
  have HK := Lib.hid hk
  have HN := Lib.hid hlen
  have HG := Lib.hid hg
  unfold OutsPost
  rw [← hlen] at hm ⊢
  clear hr hk hlen hg
  go_enter Tryz.func56, Tryz.ntmps56
  go_wp2
  go_loopw [3, 8] (fun r i wr => ∃ (k : Nat) (us : List VV), k ≤ len ∧ i = .int .i64 k ∧ wr.ownsRow w.heap.size 57 5 r k (flat VV.cells us) ∧ us.length = k ∧ (∀ (j : Nat) (x u : VV), l[j]? = some x → us[j]? = some u → OutOf x u) ∧ Below w.heap.size w wr) (fun _ i _ => len - (intOf i).toNat)
  case atStart => exact ⟨0, [], by omega, rfl, World.ownsRow_nil _ _ _ _, rfl, fun j x u _ h => by simp at h, Below.refl _ _⟩
  case round =>
    obtain ⟨k, us, hk, rfl, hown, hus, hout, hb⟩ := hrel
    have HO := Lib.hid hown
    have HU := Lib.hid hus
    have HT := Lib.hid hout
    have HB := Lib.hid hb
    have hs := hb.size
    clear hown hout hus
    by_cases hlt : k < len
    · obtain ⟨x, hx⟩ : ∃ x, l[k]? = some x := ⟨_, List.getElem?_eq_getElem (by rw [← HN.out]; exact hlt)⟩
      obtain ⟨ad, v, rfl, hbv, hv, hcv⟩ := (HR.out.below hb).at_ (k := k) (by rw [← HN.out]; exact hlt)
      obtain ⟨y, hy, hrep⟩ := (HK.out.below hb).2 k x v hx hv
      have HX := Lib.hid hx
      have HY := Lib.hid hy
      have hwf := toSV_wf (HG.out k x hx).1 (HG.out k x hx).2 hy
      have HW := Lib.hid hwf
      have HC := Lib.hid (fun W (hW : Below wr.heap.size wr W) => out_any y hwf v W (hrep.below hW))
      clear hx hv hy hrep hb hwf
      go_wp2_with (first
        | (go_at_call 81; refine (HC.out _ (Below.refl _ _)).mono ?_; rintro e w1 ⟨f, rfl, hb1, hf⟩; have HB1 := Lib.hid hb1; have HF := Lib.hid hf; have hs1 := hb1.size; clear hb1 hf)
        | (at_builtin
           refine wpList_append_any _ rfl (.tmp 12) (.tmp 15) _ rfl w.heap.size 57 i0 _ 5 56 Tryz.underlying32 hi hz0 hz1 hz2 rfl (by omega) u3 k (flat VV.cells us) rfl
             ((own_below HO.out HB1.out).alloc _) (w1.heap.size + 1) (some ⟨w1.heap.size, 0, none⟩) 1 1 (VV.cells ⟨y.nm, y.oN, y.oU, f, y.oS⟩) rfl (reads_one _ ⟨y.nm, y.oN, y.oU, f, y.oS⟩ _) (fun u hu => by simp [VV.cells] at hu; rcases hu with rfl | rfl | rfl | rfl | rfl <;> rfl) (by simp only [maxLen]; omega) (by omega) (by simp; omega) ?_
           intro v2 w2 hown2 hg2 _
           have HO2 := Lib.hid hown2; have HG2 := Lib.hid hg2; clear hown2 hg2))
      refine ⟨⟨k + 1, us ++ [⟨y.nm, y.oN, y.oU, f, y.oS⟩], by omega, by push_cast; rfl, by rw [flat_append]; simpa [flat] using HO2.out, by simp [HU.out], ?_, ?_⟩, by simp [intOf]; omega⟩
      · intro j a u ha hu
        rcases Nat.lt_or_ge j k with h | h
        · rw [List.getElem?_append_left (by rw [HU.out]; exact h)] at hu
          exact HT.out j a u ha hu
        · rw [List.getElem?_append_right (by rw [HU.out]; exact h), HU.out] at hu
          have hj : j - k = 0 := by
            rcases Nat.eq_zero_or_pos (j - k) with h | h
            · exact h
            · rw [List.getElem?_eq_none (by simp; omega)] at hu
              cases hu
          have hjk : j = k := by omega
          subst hjk
          rw [hj] at hu
          simp at hu
          subst hu
          have : a = x := Option.some.inj (ha.symm.trans HX.out)
          subst this
          exact ⟨y, HY.out, HW.out, HF.out, rfl, rfl, rfl, rfl⟩
      · have hb1 : Below w.heap.size w w1 := up_below' HB.out HB1.out
        exact (hb1.alloc (by omega) _).grown HG2.out (by simp; omega) (fun g hg => (HO.out.lt g hg).1)
    · have hke : k = len := by omega
      subst hke
      obtain ⟨A', c', rfl⟩ := own_form HO.out
      go_wp2
      go_ret
      exact ⟨A', c', us, rfl, HO.out, HU.out, HT.out, HB.out⟩

end Go.Proofs.YtffgkocokkhahaaGreatDoor

/- The package-level error of division by zero, and the number that an error gets: not 0. It needs that the variable holds what the program's text lays into it. -/
namespace Go.Proofs.YtffgkocokkhahaaGreatDoor
open Go.RowKit

/-- An error of package errors lies in memory. -/
def Er (w : World) (p : Addr) : Prop := ∃ (c : Array Value) (t : TypeId), w.heap[p.block]? = some (.cells c t (0, 0))

theorem Er.of {w w' : World} {p : Addr} (h : Er w p) (hb : Below w.heap.size w w') : Er w' p := by
  obtain ⟨c, t, h⟩ := h
  have hlt : p.block < w.heap.size := by
    rcases Nat.lt_or_ge p.block w.heap.size with h' | h'
    · exact h'
    · rw [Array.getElem?_eq_none h'] at h; cases h
  exact ⟨c, t, by rw [hb.block _ hlt]; exact h⟩

/-- The variable holds an error of package errors. -/
structure Has (w : World) (a : Addr) : Prop where
  lt : 0 < w.heap.size
  cell : w.cell? ⟨0, 0, none⟩ = some (.iface 194 (.pointer (some a)))
  er : Er w a

theorem Has.of {w w' : World} {a : Addr} (h : Has w a) (hb : Below w.heap.size w w') : Has w' a where
  lt := Nat.lt_of_lt_of_le h.lt hb.size
  cell := by rw [hb.cell (p := ⟨0, 0, none⟩) h.lt]; exact h.cell
  er := h.er.of hb

theorem erComp : (Tryz.prog.info? 194).map (·.comparable) = some true := by kernel_rfl
theorem erSize : (Tryz.prog.info? 196).map (fun i => i.size == 0) = some false := by kernel_rfl

theorem eql_same (a : Addr) (w : World) : (binOp .eql 69 (.iface 194 (.pointer (some a))) (.iface 194 (.pointer (some a)))).run Tryz.prog w = .ok (.bool true) w := by
  obtain ⟨i, hi, hcmp⟩ := Option.map_eq_some_iff.1 erComp
  obtain ⟨j, hj, hjs⟩ := Option.map_eq_some_iff.1 erSize
  exact run_eql_iface_ptr_same w a Tryz.underlying69 Tryz.underlying194 hi hcmp hj

theorem eql_other (a b : Addr) (w : World) (hne : b ≠ a) (ha : Er w a) (hb : Er w b) : (binOp .eql 69 (.iface 194 (.pointer (some b))) (.iface 194 (.pointer (some a)))).run Tryz.prog w = .ok (.bool false) w := by
  obtain ⟨i, hi, hcmp⟩ := Option.map_eq_some_iff.1 erComp
  obtain ⟨j, hj, hjs⟩ := Option.map_eq_some_iff.1 erSize
  obtain ⟨ca, ta, ha⟩ := ha
  obtain ⟨cb, tb, hb⟩ := hb
  exact run_eql_iface_ptr_other w Tryz.underlying69 Tryz.underlying194 hi hcmp hj (beq_eq_false_iff_ne.1 hjs) hne hb ha

set_option maxRecDepth 100000 in
set_option maxHeartbeats 1000000 in
theorem zzErr_nil (w : World) : Calls Tryz.prog 37 #[.nilIface] w fun e w' => e = .returned (.int .i64 0) ∧ w = w' := by
  go_enter Tryz.func37, Tryz.ntmps37
  go_wp2
  go_ret
  exact ⟨rfl, rfl⟩

@[go_sem] theorem as_dup (v : Value) (w : World) : (Instr.typeAssert (.iface 194 v) 69 133 true).run Tryz.prog w = .ok (.tuple #[.slice none 0 0, .bool false]) w := by kernel_rfl

/-- Of an error of package errors the number is not 0. -/
def CodePost (w : World) (e : Ending) (w' : World) : Prop := ∃ c : Int, e = .returned (.int .i64 c) ∧ c ≠ 0 ∧ w = w'

set_option maxRecDepth 100000 in
set_option maxHeartbeats 1000000 in
theorem zzErr_some (a b : Addr) (w : World) (h : Has w a) (hb : Er w b) : Calls Tryz.prog 37 #[.iface 194 (.pointer (some b))] w (CodePost w) := by
  have hc := h.cell
  by_cases hab : b = a
  · have hq := eql_same a w
    subst hab
    clear h hb
    go_enter Tryz.func37, Tryz.ntmps37
    go_wp2
    go_ret
    exact ⟨_, rfl, by decide, rfl⟩
  · have hq := eql_other a b w hab h.er hb
    clear h hb
    go_enter Tryz.func37, Tryz.ntmps37
    go_wp2
    go_ret
    exact ⟨_, rfl, by decide, rfl⟩

/-- An error of package errors is returned; what was there is as it was. -/
def ErPost (w : World) (e : Ending) (w' : World) : Prop := ∃ p, e = .returned (.iface 194 (.pointer (some p))) ∧ Er w' p ∧ Below w.heap.size w w'

theorem er_alloc (w : World) (c : Array Value) (t : TypeId) : Er (w.alloc (.cells c t)) ⟨w.heap.size, 0, none⟩ := ⟨c, t, by show (w.heap.push (.cells c t))[w.heap.size]? = _; simp⟩

set_option maxHeartbeats 400000 in
theorem errNew_er (s : ByteArray) (w : World) : Calls Tryz.prog 70 #[.string s] w (ErPost w) := by
  go_enter Tryz.func70, Tryz.ntmps70
  go_wp2
  go_ret
  exact ⟨_, rfl, er_alloc _ _ _, by repeat (first | exact Below.refl _ _ | exact (Below.refl _ _).alloc (Nat.le_refl _) _ | refine Below.drew ?_ | refine Below.setCell ?_ (by first | omega | (simp; omega) | simp) _ | refine Below.alloc ?_ (by first | omega | (simp; omega) | simp) _ | refine below_drewN ?_ _ | refine up_below ?_ (Nat.le_refl _) (by assumption))⟩

end Go.Proofs.YtffgkocokkhahaaGreatDoor

/- impl.fault, deferred, in a frame that returns: recover finds nothing. -/
namespace Go.Proofs.YtffgkocokkhahaaGreatDoor
open Go.RowKit

theorem fault_idle (p : Addr) (w : World) :
    CallsD Tryz.prog 36 #[.pointer (some p)] .returning w fun e u' w' => e = .returned (.tuple #[]) ∧ u' = .returning ∧ w' = w := by
  refine callsD_of_wpS Tryz.func36 rfl fun c₀ cs hu => ?_
  apply wpS_seq
  apply wpS_region
  simp [wpOpsS, go_sem, recoverD, hu, Tryz.ntmps36, Exit.thenS]
  refine wpS_cond (t := false) (by simp [Act.eval, Array.replicate]) ?_
  simp only [Bool.false_eq_true, if_false]
  refine wpS_of_wp (wp_skip ?_)
  cases c₀
  simp_all [bodyPostS, results, Tryz.results36]

end Go.Proofs.YtffgkocokkhahaaGreatDoor

/- An argument of type impl.Value, opened to its five fields. -/
namespace Go.Proofs.YtffgkocokkhahaaGreatDoor
open Go.ChangeShapes Go.WideShapes Go.ChangeAt Go.RowKit Go.Deep
set_option maxRecDepth 100000

theorem own : ownKnob Tryz.prog.godebug = none := by kernel_rfl
theorem laidOut : laidOutB Tryz.prog = true := by kernel_rfl
theorem cellsV : Tryz.prog.cellsOf 57 = 5 := by kernel_rfl
theorem cellsS : Tryz.prog.cellsOf 9 = 1 := by kernel_rfl
theorem cellsI : Tryz.prog.cellsOf 2 = 1 := by kernel_rfl
theorem cellsU : Tryz.prog.cellsOf 54 = 1 := by kernel_rfl
theorem cellsF : Tryz.prog.cellsOf 55 = 1 := by kernel_rfl

section
variable {H : Type} {enc : TypeId × Value → H} {P : Program} {w : World} {base : Nat} {spare : Nat → Bool} {held : Bool}

theorem trod_float {t : TypeId} {k : FloatKind} {fuel : Nat} {cs : List Value} {x : DataW H × List MemPlace} (ht : P.underlying t = some (.float k)) (h : DataW.trod enc P w base spare held fuel t cs = some x) :
    ∃ b, cs = [.float k b] ∧ (Lit.float k b).wf = true := by
  cases fuel with
  | zero => simp [DataW.trod] at h
  | succ n =>
    unfold DataW.trod at h
    rw [ht] at h
    split at h <;> simp_all

/-- The five fields of a value that came in. -/
structure IsVal (v : Value) (k : ByteArray) (n u : Int) (f : Nat) (s : ByteArray) : Prop where
  eq : v = .agg #[.string k, .int .i64 n, .int .u64 u, .float .f64 f, .string s]
  rng : Rng n u f
  kl : k.size ≤ maxLen
  sl : s.size ≤ maxLen

theorem isVal_of {c0 c1 c2 c3 c4 : Value} {y0 y1 y2 y3 y4 : DataW H × List MemPlace} {n0 n1 n2 n3 n4 : Nat}
    (h0 : DataW.trod enc Tryz.prog w base spare held n0 9 [c0] = some y0) (h1 : DataW.trod enc Tryz.prog w base spare held n1 2 [c1] = some y1)
    (h2 : DataW.trod enc Tryz.prog w base spare held n2 54 [c2] = some y2) (h3 : DataW.trod enc Tryz.prog w base spare held n3 55 [c3] = some y3)
    (h4 : DataW.trod enc Tryz.prog w base spare held n4 9 [c4] = some y4) : ∃ k n u f s, IsVal (.agg #[c0, c1, c2, c3, c4]) k n u f s := by
  obtain ⟨k, e0, _, hk⟩ := DataW.trod_string Tryz.underlying9 h0
  obtain ⟨n, e1, _, hn⟩ := DataW.trod_int Tryz.underlying2 h1
  obtain ⟨u, e2, _, hu⟩ := DataW.trod_int Tryz.underlying54 h2
  obtain ⟨f, e3, hf⟩ := trod_float Tryz.underlying55 h3
  obtain ⟨s, e4, _, hs⟩ := DataW.trod_string Tryz.underlying9 h4
  simp only [List.cons.injEq, and_true] at e0 e1 e2 e3 e4
  subst e0 e1 e2 e3 e4
  refine ⟨k, n, u, f, s, rfl, ?_, hk, hs⟩
  simp only [Lit.wf, Bool.and_eq_true, decide_eq_true_eq, IntKind.min, IntKind.max, IntKind.signed, IntKind.bits, if_true, Bool.false_eq_true, if_false, Nat.reduceSub, Int.reducePow, Int.reduceSub, Int.reduceNeg, Nat.reducePow] at hn hu hf
  exact ⟨hn.1, hn.2, hu.1, hu.2, hf⟩

theorem open_value {r : Reach} {b0 : Nat} {v : Value} {d : DataW H} {p : List MemPlace} (hv : Value.okWide Tryz.prog w r b0 57 v) (h : DataW.Trod enc Tryz.prog w base spare held 57 v d p) :
    ∃ k n u f s, IsVal v k n u f s := by
  obtain ⟨cs, rfl, hsz⟩ := okWide_struct Tryz.underlying57 hv
  obtain ⟨l⟩ := cs
  match l, hsz.trans cellsV with
  | [c0, c1, c2, c3, c4], _ =>
    obtain ⟨fuel, hf⟩ := h
    obtain ⟨xs, n, _, _, _, hlen, hg⟩ := DataW.trod_struct Tryz.underlying57 hf
    match xs, hlen with
    | [y0, y1, y2, y3, y4], _ =>
      exact isVal_of (y0 := y0) (y1 := y1) (y2 := y2) (y3 := y3) (y4 := y4) (by simpa [Value.cells, cellsS] using hg 0 _ rfl) (by simpa [Value.cells, cellsI] using hg 1 _ rfl)
        (by simpa [Value.cells, cellsU] using hg 2 _ rfl) (by simpa [Value.cells, cellsF] using hg 3 _ rfl) (by simpa [Value.cells, cellsS] using hg 4 _ rfl)
end

end Go.Proofs.YtffgkocokkhahaaGreatDoor

/- An argument of type []impl.Value opened to its values' fields. -/
namespace Go.Proofs.YtffgkocokkhahaaGreatDoor
open Go.ChangeShapes Go.WideShapes Go.ChangeAt Go.RowKit Go.Deep
set_option maxRecDepth 100000

section
variable {H : Type} {enc : TypeId × Value → H} {P : Program} {w : World} {base : Nat} {spare : Nat → Bool} {held : Bool}
theorem open_slice_fields {t e : TypeId} {fs : Array Field} {fuel : Nat} {cs : List Value} {x : DataW H × List MemPlace} (ht : P.underlying t = some (.slice e)) (he : P.underlying e = some (.struct fs))
    (hone : oneCellFields P fs = true) (hC : P.cellsOf e = fs.size) (h : DataW.trod enc P w base spare held fuel t cs = some x) :
    (cs = [.slice none 0 0] ∧ x = (.nil, [])) ∨
    ∃ (a : Addr) (len cap m : Nat) (D : Nat → DataW H) (Pl : Nat → List MemPlace), cs = [.slice (some a) len cap] ∧ base ≤ a.block ∧ len ≤ cap ∧ cap ≤ maxLen ∧ m = (if spare a.block then cap else len) ∧
      x = (.slice ((List.range len).map D) ((List.range (m - len)).map fun j => D (len + j)), MemPlace.row a (m * fs.size) ++ (List.range m).flatMap Pl) ∧
      ∀ i, i < m → ∃ (ys : List (DataW H × List MemPlace)) (n : Nat), D i = .agg (ys.map (·.1)) ∧ Pl i = ys.flatMap (·.2) ∧ ys.length = fs.size ∧
        ∀ (j : Nat) (f : Field), fs[j]? = some f → ∃ (v : Value) (y : DataW H × List MemPlace), w.cell? (a.add (i * fs.size + j)) = some v ∧ ys[j]? = some y ∧ DataW.trod enc P w base spare held n f.type [v] = some y := by
  rcases open_slice ht h with h0 | ⟨a, len, cap, m, n, D, Pl, hcs, hb, hl, hm, hmm, hx, hi⟩
  · exact .inl h0
  · refine .inr ⟨a, len, cap, m, D, Pl, hcs, hb, hl, hm, hmm, by rw [hC] at hx; exact hx, fun i him => ?_⟩
    obtain ⟨cs', hc, ht'⟩ := hi i him
    rw [hC] at hc
    obtain ⟨ys, n', hn', hy, hlen, hyl, hf⟩ := DataW.trod_struct he ht'
    obtain ⟨_, hcl, hat⟩ := World.cells?_some hc
    simp only [Prod.mk.injEq] at hy
    refine ⟨ys, n', hy.1, hy.2, hyl, fun j f hj => ?_⟩
    obtain ⟨ho, hk⟩ := hone_of hone j f hj
    have hjl : j < fs.size := (Array.getElem?_eq_some_iff.1 hj).1
    have hcell := hat j hjl
    have hv : cs'[j]? = some (cs'[j]'(by omega)) := List.getElem?_eq_getElem (by omega)
    have h1 := hf j f hj
    rw [ho, hk] at h1
    have hone' : (cs'.drop j).take 1 = [cs'[j]'(by omega)] := by
      rw [List.drop_eq_getElem_cons (by omega)]
      rfl
    rw [hone'] at h1
    have hys : ys[j]? = some (ys[j]'(by omega)) := List.getElem?_eq_getElem (by omega)
    refine ⟨_, _, ?_, hys, h1.trans hys⟩
    rw [← Go.Deep.add_add, hcell, hv]
end

section
variable {H : Type} {enc : TypeId × Value → H} {w : World} {base : Nat} {held : Bool}

theorem cell_lt {w : World} {p : Addr} {v : Value} (h : w.cell? p = some v) : p.block < w.heap.size := by
  rcases Nat.lt_or_ge p.block w.heap.size with h' | h'
  · exact h'
  · unfold World.cell? at h
    rw [Array.getElem?_eq_none h'] at h
    cases h

theorem add_pos (a : Addr) (j : Nat) (h : j ≠ 0) : a.add j = ⟨a.block, a.off + j, none⟩ := by unfold Addr.add; rw [if_neg h]

instance : Inhabited VV := ⟨⟨⟨#[]⟩, 0, 0, 0, ⟨#[]⟩⟩⟩

theorem open_values {fuel : Nat} {cs : List Value} {x : DataW H × List MemPlace} (h : DataW.trod enc Tryz.prog w base (fun _ => true) held fuel 32 cs = some x) :
    ∃ (A : Option Addr) (l : List VV) (c : Nat), cs = [.slice A l.length c] ∧ LAt w A l ∧ (∀ (j : Nat) (x : VV), l[j]? = some x → Rng x.n x.u x.f) ∧ l.length ≤ maxLen := by
  rcases open_slice_fields Tryz.underlying32 Tryz.underlying57 (by kernel_rfl) cellsV h with ⟨rfl, _⟩ | ⟨a, len, cap, m, D, Pl, rfl, _, hl, hm, hmm, _, hel⟩
  · exact ⟨none, [], 0, rfl, fun i x h => by simp at h, fun i x h => by simp at h, by simp⟩
  · have hmm' : m = cap := hmm
    obtain ⟨V, hV⟩ := choose_lt (α := VV) (n := len) (p := fun i x => (Rng x.n x.u x.f) ∧ w.cell? (a.add (i * 5)) = some (.string x.k) ∧ w.cell? (a.add (i * 5 + 1)) = some (.int .i64 x.n) ∧ w.cell? (a.add (i * 5 + 2)) = some (.int .u64 x.u) ∧ w.cell? (a.add (i * 5 + 3)) = some (.float .f64 x.f) ∧ w.cell? (a.add (i * 5 + 4)) = some (.string x.s)) (fun i hi => by
      obtain ⟨ys, n, _, _, _, hf⟩ := hel i (by omega)
      obtain ⟨v0, y0, c0, _, t0⟩ := hf 0 _ rfl
      obtain ⟨v1, y1, c1, _, t1⟩ := hf 1 _ rfl
      obtain ⟨v2, y2, c2, _, t2⟩ := hf 2 _ rfl
      obtain ⟨v3, y3, c3, _, t3⟩ := hf 3 _ rfl
      obtain ⟨v4, y4, c4, _, t4⟩ := hf 4 _ rfl
      obtain ⟨k, n, u, f, s, he, hr, _, _⟩ := isVal_of t0 t1 t2 t3 t4
      simp only [Value.agg.injEq, Array.mk.injEq, List.cons.injEq, and_true] at he
      obtain ⟨rfl, rfl, rfl, rfl, rfl⟩ := he
      exact ⟨⟨k, n, u, f, s⟩, hr, c0, c1, c2, c3, c4⟩)
    refine ⟨some a, (List.range len).map V, cap, by simp, fun i x hx => ?_, fun i x hx => ?_, by simp; omega⟩
    · rw [List.getElem?_map] at hx
      rcases Nat.lt_or_ge i len with hi | hi
      · rw [List.getElem?_range hi] at hx
        obtain rfl := Option.some.inj hx
        obtain ⟨_, c0, c1, c2, c3, c4⟩ := hV i hi
        have e : ∀ j, j ≠ 0 → a.add (i * 5 + j) = ⟨(a.add (i * 5)).block, (a.add (i * 5)).off + j, none⟩ := fun j hj => by rw [← Go.Deep.add_add, add_pos _ j hj]
        rw [e 1 (by decide)] at c1
        rw [e 2 (by decide)] at c2
        rw [e 3 (by decide)] at c3
        rw [e 4 (by decide)] at c4
        exact ⟨a, rfl, cell_lt c0, c0, c1, c2, c3, c4⟩
      · rw [List.getElem?_eq_none (by simpa using hi)] at hx
        cases hx
    · rw [List.getElem?_map] at hx
      rcases Nat.lt_or_ge i len with hi | hi
      · rw [List.getElem?_range hi] at hx
        obtain rfl := Option.some.inj hx
        exact (hV i hi).1
      · rw [List.getElem?_eq_none (by simpa using hi)] at hx
        cases hx

theorem open_list {r : Reach} {b0 : Nat} {v : Value} {d : DataW H} {p : List MemPlace} (hv : Value.okWide Tryz.prog w r b0 32 v) (h : DataW.Trod enc Tryz.prog w base (fun _ => true) held 32 v d p) :
    ∃ (A : Option Addr) (l : List VV) (c : Nat), v = .slice A l.length c ∧ LAt w A l ∧ (∀ (j : Nat) (x : VV), l[j]? = some x → Rng x.n x.u x.f) ∧ l.length ≤ maxLen := by
  obtain ⟨a0, len, cap, rfl⟩ := okWide_slice Tryz.underlying32 hv
  obtain ⟨fuel, hf⟩ := h
  obtain ⟨A, l, c, e0, hl, hr, hm⟩ := open_values hf
  have e1 : (Value.slice a0 len cap) = .slice A l.length c := by
    have : [Value.slice a0 len cap] = [.slice A l.length c] := e0
    simpa using this
  exact ⟨A, l, c, e1, hl, hr, hm⟩

end

end Go.Proofs.YtffgkocokkhahaaGreatDoor
