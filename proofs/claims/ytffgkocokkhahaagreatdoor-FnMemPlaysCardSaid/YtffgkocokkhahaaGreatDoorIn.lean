/-
  Values of the database as the program has them; the walk of impl.in. PRINTED BY wip/tpl/gen_in.py.
-/
import Derived.Test.YtffgkocokkhahaaGreatDoorFcv
namespace Go.Proofs.YtffgkocokkhahaaGreatDoor
open Go.RowKit

/-- The types of integers by their kinds. -/
def kindT : IntKind → TypeId
  | .i8 => 185
  | .i16 => 186
  | .i32 => 21
  | .i64 => 2
  | .u8 => 5
  | .u16 => 187
  | .u32 => 114
  | .u64 => 54

/-- What the program has for a value. A blob lies in memory. -/
def Rep (w : World) : SV → Value → Prop
  | .null, v => v = .nilIface
  | .bool b, v => v = .iface 4 (.bool b)
  | .int k n, v => v = .iface (kindT k) (.int k n)
  | .f32 x, v => v = .iface 161 (.float .f32 x)
  | .f64 x, v => v = .iface 55 (.float .f64 x)
  | .str s, v => v = .iface 9 (.string s)
  | .blob l, v => ∃ a cap, v = .iface 188 (.slice (some a) l.length cap) ∧ a.block < w.heap.size ∧ ∀ j (hj : j < l.length), w.cell? (a.add j) = some (.int .u8 (l[j].toNat : Int))
  | .iInt n, v => v = .iface 198 (.int .i64 n)
  | .iRune n, v => v = .iface 199 (.int .i32 n)
  | .iUint n, v => v = .iface 200 (.int .u64 n)
  | .iFloat x, v => v = .iface 197 (.float .f64 x)

theorem Rep.below {w w' : World} {x : SV} {v : Value} (h : Rep w x v) (hb : Below w.heap.size w w') : Rep w' x v := by
  cases x with
  | blob l =>
    obtain ⟨a, cap, hv, hlt, hc⟩ := h
    refine ⟨a, cap, hv, Nat.lt_of_lt_of_le hlt hb.size, fun j hj => ?_⟩
    rw [hb.cell (p := a.add j) (by rw [show (a.add j).block = a.block from by unfold Addr.add; split <;> rfl]; exact hlt)]
    exact hc j hj
  | _ => exact h

/-- A value as data. -/
def toSV (kd : Kd) (n u : Int) (f : Nat) (s : ByteArray) : SV :=
  match kd with
  | .null | .other => .null
  | .bool => .bool (n != 0)
  | .int k => .int k (if k.signed = true then n else u)
  | .f32 => .f32 (Flt.down f)
  | .f64 => .f64 f
  | .str => .str s
  | .blob => .blob s.data.toList
  | .iInt => .iInt n
  | .iRune => .iRune n
  | .iUint => .iUint u
  | .iFloat => .iFloat f

/-- What is in a value fits its fields. -/
def Rng (n u : Int) (f : Nat) : Prop := -9223372036854775808 ≤ n ∧ n ≤ 9223372036854775807 ∧ 0 ≤ u ∧ u ≤ 18446744073709551615 ∧ f < 18446744073709551616


/-- y is what a value is as data; a float32 that is no number: any one that is none. -/
def SVof (kd : Kd) (n u : Int) (f : Nat) (s : ByteArray) (y : SV) : Prop :=
  if kd = .f32 ∧ numB f = false then ∃ x, y = .f32 x ∧ (Ieee.single.read x).isNaN = true ∧ x < 4294967296 else y = toSV kd n u f s

/-- The value that comes in is what the program has for it: y; of a float32 that is no number: some one that is none. -/
def InPost (kd : Kd) (n u : Int) (f : Nat) (s : ByteArray) (w : World) (e : Ending) (w' : World) : Prop :=
  ∃ v y, e = .returned v ∧ Rep w' y v ∧ Below w.heap.size w w' ∧ SVof kd n u f s y

set_option maxRecDepth 100000 in
set_option maxHeartbeats 1000000 in
theorem in_null (k : ByteArray) (hk : Kd.of k.toList = .null) (n u : Int) (f : Nat) (s : ByteArray) (w : World) :
    Calls Tryz.prog 68 #[.agg #[.string k, .int .i64 n, .int .u64 u, .float .f64 f, .string s]] w fun e w' => e = .returned (.nilIface) ∧ Below w.heap.size w w' := by
  have hl := Kd.of_lit _ hk (by simp)
  clear hk
  simp only [Kd.lit] at hl
  go_enter Tryz.func68, Tryz.ntmps68
  go_wp2_with (fail)
  go_ret
  exact ⟨rfl, (Below.refl _ _).alloc (Nat.le_refl _) _⟩

set_option maxRecDepth 100000 in
set_option maxHeartbeats 1000000 in
theorem in_bool (k : ByteArray) (hk : Kd.of k.toList = .bool) (n u : Int) (f : Nat) (s : ByteArray) (w : World) :
    Calls Tryz.prog 68 #[.agg #[.string k, .int .i64 n, .int .u64 u, .float .f64 f, .string s]] w fun e w' => e = .returned (.iface 4 (.bool (n != 0))) ∧ Below w.heap.size w w' := by
  have hl := Kd.of_lit _ hk (by simp)
  clear hk
  simp only [Kd.lit] at hl
  go_enter Tryz.func68, Tryz.ntmps68
  go_wp2_with (fail)
  go_ret
  exact ⟨rfl, (Below.refl _ _).alloc (Nat.le_refl _) _⟩

set_option maxRecDepth 100000 in
set_option maxHeartbeats 1000000 in
theorem in_i8 (k : ByteArray) (hk : Kd.of k.toList = (.int .i8)) (n u : Int) (f : Nat) (s : ByteArray) (h : IntKind.i8.wrap n = n) (w : World) :
    Calls Tryz.prog 68 #[.agg #[.string k, .int .i64 n, .int .u64 u, .float .f64 f, .string s]] w fun e w' => e = .returned (.iface 185 (.int .i8 n)) ∧ Below w.heap.size w w' := by
  have hl := Kd.of_lit _ hk (by simp)
  clear hk
  simp only [Kd.lit] at hl
  go_enter Tryz.func68, Tryz.ntmps68
  go_wp2_with (fail)
  go_ret
  exact ⟨rfl, (Below.refl _ _).alloc (Nat.le_refl _) _⟩

set_option maxRecDepth 100000 in
set_option maxHeartbeats 1000000 in
theorem in_i16 (k : ByteArray) (hk : Kd.of k.toList = (.int .i16)) (n u : Int) (f : Nat) (s : ByteArray) (h : IntKind.i16.wrap n = n) (w : World) :
    Calls Tryz.prog 68 #[.agg #[.string k, .int .i64 n, .int .u64 u, .float .f64 f, .string s]] w fun e w' => e = .returned (.iface 186 (.int .i16 n)) ∧ Below w.heap.size w w' := by
  have hl := Kd.of_lit _ hk (by simp)
  clear hk
  simp only [Kd.lit] at hl
  go_enter Tryz.func68, Tryz.ntmps68
  go_wp2_with (fail)
  go_ret
  exact ⟨rfl, (Below.refl _ _).alloc (Nat.le_refl _) _⟩

set_option maxRecDepth 100000 in
set_option maxHeartbeats 1000000 in
theorem in_i32 (k : ByteArray) (hk : Kd.of k.toList = (.int .i32)) (n u : Int) (f : Nat) (s : ByteArray) (h : IntKind.i32.wrap n = n) (w : World) :
    Calls Tryz.prog 68 #[.agg #[.string k, .int .i64 n, .int .u64 u, .float .f64 f, .string s]] w fun e w' => e = .returned (.iface 21 (.int .i32 n)) ∧ Below w.heap.size w w' := by
  have hl := Kd.of_lit _ hk (by simp)
  clear hk
  simp only [Kd.lit] at hl
  go_enter Tryz.func68, Tryz.ntmps68
  go_wp2_with (fail)
  go_ret
  exact ⟨rfl, (Below.refl _ _).alloc (Nat.le_refl _) _⟩

set_option maxRecDepth 100000 in
set_option maxHeartbeats 1000000 in
theorem in_i64 (k : ByteArray) (hk : Kd.of k.toList = (.int .i64)) (n u : Int) (f : Nat) (s : ByteArray) (w : World) :
    Calls Tryz.prog 68 #[.agg #[.string k, .int .i64 n, .int .u64 u, .float .f64 f, .string s]] w fun e w' => e = .returned (.iface 2 (.int .i64 n)) ∧ Below w.heap.size w w' := by
  have hl := Kd.of_lit _ hk (by simp)
  clear hk
  simp only [Kd.lit] at hl
  go_enter Tryz.func68, Tryz.ntmps68
  go_wp2_with (fail)
  go_ret
  exact ⟨rfl, (Below.refl _ _).alloc (Nat.le_refl _) _⟩

set_option maxRecDepth 100000 in
set_option maxHeartbeats 1000000 in
theorem in_u8 (k : ByteArray) (hk : Kd.of k.toList = (.int .u8)) (n u : Int) (f : Nat) (s : ByteArray) (h : IntKind.u8.wrap u = u) (w : World) :
    Calls Tryz.prog 68 #[.agg #[.string k, .int .i64 n, .int .u64 u, .float .f64 f, .string s]] w fun e w' => e = .returned (.iface 5 (.int .u8 u)) ∧ Below w.heap.size w w' := by
  have hl := Kd.of_lit _ hk (by simp)
  clear hk
  simp only [Kd.lit] at hl
  go_enter Tryz.func68, Tryz.ntmps68
  go_wp2_with (fail)
  go_ret
  exact ⟨rfl, (Below.refl _ _).alloc (Nat.le_refl _) _⟩

set_option maxRecDepth 100000 in
set_option maxHeartbeats 1000000 in
theorem in_u16 (k : ByteArray) (hk : Kd.of k.toList = (.int .u16)) (n u : Int) (f : Nat) (s : ByteArray) (h : IntKind.u16.wrap u = u) (w : World) :
    Calls Tryz.prog 68 #[.agg #[.string k, .int .i64 n, .int .u64 u, .float .f64 f, .string s]] w fun e w' => e = .returned (.iface 187 (.int .u16 u)) ∧ Below w.heap.size w w' := by
  have hl := Kd.of_lit _ hk (by simp)
  clear hk
  simp only [Kd.lit] at hl
  go_enter Tryz.func68, Tryz.ntmps68
  go_wp2_with (fail)
  go_ret
  exact ⟨rfl, (Below.refl _ _).alloc (Nat.le_refl _) _⟩

set_option maxRecDepth 100000 in
set_option maxHeartbeats 1000000 in
theorem in_u32 (k : ByteArray) (hk : Kd.of k.toList = (.int .u32)) (n u : Int) (f : Nat) (s : ByteArray) (h : IntKind.u32.wrap u = u) (w : World) :
    Calls Tryz.prog 68 #[.agg #[.string k, .int .i64 n, .int .u64 u, .float .f64 f, .string s]] w fun e w' => e = .returned (.iface 114 (.int .u32 u)) ∧ Below w.heap.size w w' := by
  have hl := Kd.of_lit _ hk (by simp)
  clear hk
  simp only [Kd.lit] at hl
  go_enter Tryz.func68, Tryz.ntmps68
  go_wp2_with (fail)
  go_ret
  exact ⟨rfl, (Below.refl _ _).alloc (Nat.le_refl _) _⟩

set_option maxRecDepth 100000 in
set_option maxHeartbeats 1000000 in
theorem in_u64 (k : ByteArray) (hk : Kd.of k.toList = (.int .u64)) (n u : Int) (f : Nat) (s : ByteArray) (w : World) :
    Calls Tryz.prog 68 #[.agg #[.string k, .int .i64 n, .int .u64 u, .float .f64 f, .string s]] w fun e w' => e = .returned (.iface 54 (.int .u64 u)) ∧ Below w.heap.size w w' := by
  have hl := Kd.of_lit _ hk (by simp)
  clear hk
  simp only [Kd.lit] at hl
  go_enter Tryz.func68, Tryz.ntmps68
  go_wp2_with (fail)
  go_ret
  exact ⟨rfl, (Below.refl _ _).alloc (Nat.le_refl _) _⟩

set_option maxRecDepth 100000 in
set_option maxHeartbeats 1000000 in
theorem in_f64 (k : ByteArray) (hk : Kd.of k.toList = .f64) (n u : Int) (f : Nat) (s : ByteArray) (w : World) :
    Calls Tryz.prog 68 #[.agg #[.string k, .int .i64 n, .int .u64 u, .float .f64 f, .string s]] w fun e w' => e = .returned (.iface 55 (.float .f64 f)) ∧ Below w.heap.size w w' := by
  have hl := Kd.of_lit _ hk (by simp)
  clear hk
  simp only [Kd.lit] at hl
  go_enter Tryz.func68, Tryz.ntmps68
  go_wp2_with (fail)
  go_ret
  exact ⟨rfl, (Below.refl _ _).alloc (Nat.le_refl _) _⟩

set_option maxRecDepth 100000 in
set_option maxHeartbeats 1000000 in
theorem in_str (k : ByteArray) (hk : Kd.of k.toList = .str) (n u : Int) (f : Nat) (s : ByteArray) (w : World) :
    Calls Tryz.prog 68 #[.agg #[.string k, .int .i64 n, .int .u64 u, .float .f64 f, .string s]] w fun e w' => e = .returned (.iface 9 (.string s)) ∧ Below w.heap.size w w' := by
  have hl := Kd.of_lit _ hk (by simp)
  clear hk
  simp only [Kd.lit] at hl
  go_enter Tryz.func68, Tryz.ntmps68
  go_wp2_with (fail)
  go_ret
  exact ⟨rfl, (Below.refl _ _).alloc (Nat.le_refl _) _⟩

set_option maxRecDepth 100000 in
set_option maxHeartbeats 1000000 in
theorem in_iInt (k : ByteArray) (hk : Kd.of k.toList = .iInt) (n u : Int) (f : Nat) (s : ByteArray) (w : World) :
    Calls Tryz.prog 68 #[.agg #[.string k, .int .i64 n, .int .u64 u, .float .f64 f, .string s]] w fun e w' => e = .returned (.iface 198 (.int .i64 n)) ∧ Below w.heap.size w w' := by
  have hl := Kd.of_lit _ hk (by simp)
  clear hk
  simp only [Kd.lit] at hl
  go_enter Tryz.func68, Tryz.ntmps68
  go_wp2_with go_in
  go_ret
  exact ⟨rfl, (Below.refl _ _).alloc (Nat.le_refl _) _⟩

set_option maxRecDepth 100000 in
set_option maxHeartbeats 1000000 in
theorem in_iRune (k : ByteArray) (hk : Kd.of k.toList = .iRune) (n u : Int) (f : Nat) (s : ByteArray) (h : IntKind.i32.wrap n = n) (w : World) :
    Calls Tryz.prog 68 #[.agg #[.string k, .int .i64 n, .int .u64 u, .float .f64 f, .string s]] w fun e w' => e = .returned (.iface 199 (.int .i32 n)) ∧ Below w.heap.size w w' := by
  have hl := Kd.of_lit _ hk (by simp)
  clear hk
  simp only [Kd.lit] at hl
  go_enter Tryz.func68, Tryz.ntmps68
  go_wp2_with go_in
  go_ret
  exact ⟨rfl, (Below.refl _ _).alloc (Nat.le_refl _) _⟩

set_option maxRecDepth 100000 in
set_option maxHeartbeats 1000000 in
theorem in_iUint (k : ByteArray) (hk : Kd.of k.toList = .iUint) (n u : Int) (f : Nat) (s : ByteArray) (w : World) :
    Calls Tryz.prog 68 #[.agg #[.string k, .int .i64 n, .int .u64 u, .float .f64 f, .string s]] w fun e w' => e = .returned (.iface 200 (.int .u64 u)) ∧ Below w.heap.size w w' := by
  have hl := Kd.of_lit _ hk (by simp)
  clear hk
  simp only [Kd.lit] at hl
  go_enter Tryz.func68, Tryz.ntmps68
  go_wp2_with go_in
  go_ret
  exact ⟨rfl, (Below.refl _ _).alloc (Nat.le_refl _) _⟩

set_option maxRecDepth 100000 in
set_option maxHeartbeats 1000000 in
theorem in_iFloat (k : ByteArray) (hk : Kd.of k.toList = .iFloat) (n u : Int) (f : Nat) (s : ByteArray) (w : World) :
    Calls Tryz.prog 68 #[.agg #[.string k, .int .i64 n, .int .u64 u, .float .f64 f, .string s]] w fun e w' => e = .returned (.iface 197 (.float .f64 f)) ∧ Below w.heap.size w w' := by
  have hl := Kd.of_lit _ hk (by simp)
  clear hk
  simp only [Kd.lit] at hl
  go_enter Tryz.func68, Tryz.ntmps68
  go_wp2_with go_in
  go_ret
  exact ⟨rfl, (Below.refl _ _).alloc (Nat.le_refl _) _⟩

set_option maxRecDepth 100000 in
set_option maxHeartbeats 1000000 in
theorem in_f32 (k : ByteArray) (hk : Kd.of k.toList = .f32) (n u : Int) (f : Nat) (s : ByteArray) (h : ((Ieee.single.read (Flt.down f)).isInfinity && !(Ieee.double.read f).isInfinity) = false) (h3 : (Ieee.double.read f).isNaN = false) (w : World) :
    Calls Tryz.prog 68 #[.agg #[.string k, .int .i64 n, .int .u64 u, .float .f64 f, .string s]] w fun e w' => e = .returned (.iface 161 (.float .f32 (Flt.down f))) ∧ Below w.heap.size w w' := by
  have hl := Kd.of_lit _ hk (by simp)
  clear hk
  simp only [Kd.lit] at hl
  have c1 := fun W => run_narrow f h h3 W
  clear h h3
  go_enter Tryz.func68, Tryz.ntmps68
  go_wp2
  go_ret
  exact ⟨rfl, (Below.refl _ _).alloc (Nat.le_refl _) _⟩

set_option maxRecDepth 100000 in
set_option maxHeartbeats 1000000 in
theorem in_f32_nan (k : ByteArray) (hk : Kd.of k.toList = .f32) (n u : Int) (f : Nat) (s : ByteArray) (h3 : (Ieee.double.read f).isNaN = true) (w : World) :
    Calls Tryz.prog 68 #[.agg #[.string k, .int .i64 n, .int .u64 u, .float .f64 f, .string s]] w fun e w' => ∃ W, e = .returned (.iface 161 (.float .f32 (nan32 W f))) ∧ Below w.heap.size w w' := by
  have hl := Kd.of_lit _ hk (by simp)
  clear hk
  simp only [Kd.lit] at hl
  have c1 := fun W => run_nan32 f h3 W
  clear h3
  go_enter Tryz.func68, Tryz.ntmps68
  go_wp2
  go_ret
  exact ⟨_, rfl, ((Below.refl _ _).alloc (Nat.le_refl _) _).drew⟩

theorem cell_second (w : World) (o : Obj) (C : Array Value) (t : TypeId) (fr : Nat × Nat) (j : Nat) : ((w.alloc o).alloc (.cells C t fr)).cell? ⟨w.heap.size + 1, j, none⟩ = C[j]? := by
  have h := World.cell?_alloc_mark (w.alloc o) C t fr j
  rwa [show (w.alloc o).heap.size = w.heap.size + 1 from by simp] at h

def BlobPost (s : ByteArray) (w : World) (e : Ending) (w' : World) : Prop :=
  ∃ b cap, e = .returned (.iface 188 (.slice (some ⟨b, 0, none⟩) s.size cap)) ∧ w.heap.size ≤ b ∧ b < w'.heap.size ∧ Below w.heap.size w w' ∧ ∀ j, w'.cell? ⟨b, j, none⟩ = (bytesRow s cap)[j]?

set_option maxRecDepth 100000 in
set_option maxHeartbeats 1000000 in
theorem in_blob (k : ByteArray) (hk : Kd.of k.toList = .blob) (n u : Int) (f : Nat) (s : ByteArray) (w : World) :
    Calls Tryz.prog 68 #[.agg #[.string k, .int .i64 n, .int .u64 u, .float .f64 f, .string s]] w (BlobPost s w) := by
  have hl := Kd.of_lit _ hk (by simp)
  clear hk
  simp only [Kd.lit] at hl
  have c1 := fun W => run_bytes_of_string W 9 188 5 s Tryz.underlying9 Tryz.underlying188 Tryz.underlying5
  go_enter Tryz.func68, Tryz.ntmps68
  go_wp2
  go_ret
  refine ⟨_, _, rfl, ?_, ?_, ?_, ?_⟩
  · simp
  · simp
  · exact (((Below.refl _ _).alloc (Nat.le_refl _) _).alloc (by simp) _).drew
  · intro j
    rw [World.cell?_drew]
    exact cell_second w _ _ _ _ j

theorem wrap_i {k : IntKind} {n : Int} (h1 : k.min ≤ n) (h2 : n ≤ k.max) : k.wrap n = n := by
  cases k <;> simp only [IntKind.min, IntKind.max, IntKind.wrap, IntKind.bits, IntKind.signed, if_true, if_false, Bool.true_and, Bool.false_and, Bool.false_eq_true, decide_eq_true_eq, ge_iff_le, Nat.reduceSub, Int.reducePow] at * <;> (try split) <;> omega

/-- The value that comes in is what the program has for it. -/
theorem in_any (k : ByteArray) (n u : Int) (f : Nat) (s : ByteArray) (hr : Rng n u f) (hv : validB (Kd.of k.toList) n u f s = true) (w : World) :
    Calls Tryz.prog 68 #[.agg #[.string k, .int .i64 n, .int .u64 u, .float .f64 f, .string s]] w (InPost (Kd.of k.toList) n u f s w) := by
  obtain ⟨r1, r2, r3, r4, r5⟩ := hr
  cases hk : Kd.of k.toList with
  | other => rw [hk] at hv; simp [validB] at hv
  | null => exact (in_null k hk n u f s w).mono fun e w' ⟨he, hb⟩ => ⟨_, .null, he, rfl, hb, by simp [SVof, toSV]⟩
  | bool => exact (in_bool k hk n u f s w).mono fun e w' ⟨he, hb⟩ => ⟨_, .bool (n != 0), he, rfl, hb, by simp [SVof, toSV]⟩
  | int q =>
    rw [hk] at hv
    cases q <;> simp only [validB, Bool.and_eq_true, beq_iff_eq] at hv
    case i8 => exact (in_i8 k hk n u f s (wrap_i (by simp [IntKind.min, IntKind.signed, IntKind.bits]; omega) (by simp [IntKind.max, IntKind.signed, IntKind.bits]; omega)) w).mono fun e w' ⟨he, hb⟩ => ⟨_, .int .i8 n, he, rfl, hb, by simp [SVof, toSV, IntKind.signed]⟩
    case i16 => exact (in_i16 k hk n u f s (wrap_i (by simp [IntKind.min, IntKind.signed, IntKind.bits]; omega) (by simp [IntKind.max, IntKind.signed, IntKind.bits]; omega)) w).mono fun e w' ⟨he, hb⟩ => ⟨_, .int .i16 n, he, rfl, hb, by simp [SVof, toSV, IntKind.signed]⟩
    case i32 => exact (in_i32 k hk n u f s (wrap_i (by simp [IntKind.min, IntKind.signed, IntKind.bits]; omega) (by simp [IntKind.max, IntKind.signed, IntKind.bits]; omega)) w).mono fun e w' ⟨he, hb⟩ => ⟨_, .int .i32 n, he, rfl, hb, by simp [SVof, toSV, IntKind.signed]⟩
    case i64 => exact (in_i64 k hk n u f s w).mono fun e w' ⟨he, hb⟩ => ⟨_, .int .i64 n, he, rfl, hb, by simp [SVof, toSV, IntKind.signed]⟩
    case u8 => exact (in_u8 k hk n u f s (wrap_i (by simp [IntKind.min, IntKind.signed]; omega) (by simp [IntKind.max, IntKind.signed, IntKind.bits]; omega)) w).mono fun e w' ⟨he, hb⟩ => ⟨_, .int .u8 u, he, rfl, hb, by simp [SVof, toSV, IntKind.signed]⟩
    case u16 => exact (in_u16 k hk n u f s (wrap_i (by simp [IntKind.min, IntKind.signed]; omega) (by simp [IntKind.max, IntKind.signed, IntKind.bits]; omega)) w).mono fun e w' ⟨he, hb⟩ => ⟨_, .int .u16 u, he, rfl, hb, by simp [SVof, toSV, IntKind.signed]⟩
    case u32 => exact (in_u32 k hk n u f s (wrap_i (by simp [IntKind.min, IntKind.signed]; omega) (by simp [IntKind.max, IntKind.signed, IntKind.bits]; omega)) w).mono fun e w' ⟨he, hb⟩ => ⟨_, .int .u32 u, he, rfl, hb, by simp [SVof, toSV, IntKind.signed]⟩
    case u64 => exact (in_u64 k hk n u f s w).mono fun e w' ⟨he, hb⟩ => ⟨_, .int .u64 u, he, rfl, hb, by simp [SVof, toSV, IntKind.signed]⟩
  | f32 =>
    rw [hk] at hv
    simp only [validB, Bool.and_eq_true] at hv
    obtain ⟨_, h4⟩ := hv
    unfold single64 at h4
    cases hn : (Ieee.double.read f).isNaN with
    | true =>
      refine (in_f32_nan k hk n u f s hn w).mono fun e w' ⟨W, he, hb⟩ => ⟨_, .f32 (nan32 W f), he, rfl, hb, ?_⟩
      unfold SVof
      rw [if_pos ⟨rfl, by rw [numB_nan, hn]; rfl⟩]
      exact ⟨_, rfl, isNaN_nan32 _ _, nan32_lt _ _⟩
    | false =>
      rw [numB_nan, hn] at h4
      simp only [Bool.not_false, Bool.not_true, Bool.false_or, Bool.and_eq_true, Bool.not_eq_true'] at h4
      refine (in_f32 k hk n u f s h4.2 hn w).mono fun e w' ⟨he, hb⟩ => ⟨_, .f32 (Flt.down f), he, rfl, hb, ?_⟩
      unfold SVof
      rw [if_neg (fun h => by have := h.2; rw [numB_nan, hn] at this; cases this)]
      rfl
  | f64 => exact (in_f64 k hk n u f s w).mono fun e w' ⟨he, hb⟩ => ⟨_, .f64 f, he, rfl, hb, by simp [SVof, toSV]⟩
  | str => exact (in_str k hk n u f s w).mono fun e w' ⟨he, hb⟩ => ⟨_, .str s, he, rfl, hb, by simp [SVof, toSV]⟩
  | blob =>
    refine (in_blob k hk n u f s w).mono fun e w' ⟨b, cap, he, _, hlt, hb, hc⟩ => ⟨_, .blob s.data.toList, he, ?_, hb, by simp [SVof, toSV]⟩
    refine ⟨⟨b, 0, none⟩, cap, rfl, hlt, fun j hj => ?_⟩
    have ha : Addr.add ⟨b, 0, none⟩ j = ⟨b, j, none⟩ := by
      unfold Addr.add
      split
      · rename_i h0; subst h0; rfl
      · simp
    rw [ha, hc j]
    unfold bytesRow
    have hj' : j < s.data.size := by simpa using hj
    rw [Array.getElem?_append_left (by simpa using hj')]
    simp
    exact ⟨s.data[j], Array.getElem?_eq_getElem hj', rfl⟩
  | iInt => exact (in_iInt k hk n u f s w).mono fun e w' ⟨he, hb⟩ => ⟨_, .iInt n, he, rfl, hb, by simp [SVof, toSV]⟩
  | iRune =>
    rw [hk] at hv
    simp only [validB, Bool.and_eq_true, beq_iff_eq] at hv
    exact (in_iRune k hk n u f s (wrap_i (by simp [IntKind.min, IntKind.signed, IntKind.bits]; omega) (by simp [IntKind.max, IntKind.signed, IntKind.bits]; omega)) w).mono fun e w' ⟨he, hb⟩ => ⟨_, .iRune n, he, rfl, hb, by simp [SVof, toSV]⟩
  | iUint => exact (in_iUint k hk n u f s w).mono fun e w' ⟨he, hb⟩ => ⟨_, .iUint u, he, rfl, hb, by simp [SVof, toSV]⟩
  | iFloat => exact (in_iFloat k hk n u f s w).mono fun e w' ⟨he, hb⟩ => ⟨_, .iFloat f, he, rfl, hb, by simp [SVof, toSV]⟩

end Go.Proofs.YtffgkocokkhahaaGreatDoor
