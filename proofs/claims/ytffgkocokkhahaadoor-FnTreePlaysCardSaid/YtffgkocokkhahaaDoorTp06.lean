/-
  laws.valid at every kind; laws.concrete; laws.num. || What a type assertion with ok gives at the types of values. PRINTED BY wip/tpl/gen_as.py.
-/
import Derived.Test.YtffgkocokkhahaaDoorTp05
import Derived.Test.YtffgkocokkhahaaDoorTp02
import Derived.Test.YtffgkocokkhahaaDoorTp01

/- laws.valid at every kind; laws.concrete; laws.num. -/
namespace Go.Proofs.YtffgkocokkhahaaDoor
open Go.RowKit

/-- A float is turned to a float32 and read: never a NaN of a number. -/
theorem down_num {f : Nat} (h : (Ieee.double.read f).isNaN = false) : (Ieee.single.read (Flt.down f)).isNaN = false := by
  unfold Flt.down
  cases hd : Ieee.double.read f with
  | nan s t => rw [hd] at h; cases h
  | infinity s =>
    show (Ieee.single.read (Ieee.single.word s Ieee.single.infRung)).isNaN = false
    rw [Flt.read_inf_s]
    rfl
  | number s m p =>
    show (Ieee.single.read (Ieee.single.nearest s m p)).isNaN = false
    by_cases hm : m = 0
    · subst hm
      cases s <;> (unfold Ieee.Format.nearest; rw [if_pos rfl]; decide +kernel)
    · obtain ⟨n, kept, hn, _, _, _, _⟩ := Flt.nearest_parts Ieee.single s p hm
      rw [hn]
      rcases Nat.lt_or_ge (n * Ieee.single.binade + kept) Ieee.single.infRung with hlt | hge
      · rw [Nat.min_eq_left (Nat.le_of_lt hlt)]
        exact (Flt.key_word Ieee.single s hlt (by rw [Flt.s_lp]; omega)).2.2.1
      · rw [Nat.min_eq_right hge, Flt.read_inf_s]
        rfl

theorem valid_any (k : ByteArray) (n u : Int) (f : Nat) (s : ByteArray) (w : World) :
    Calls Tryd.prog 33 #[.agg #[.string k, .int .i64 n, .int .u64 u, .float .f64 f, .string s]] w fun e w' => e = .returned (.bool (validB (Kd.of k.toList) n u f s)) ∧ Below w.heap.size w w' := by
  cases hk : Kd.of k.toList with
  | null => exact valid_null k hk n u f s w
  | bool => exact valid_bool k hk n u f s w
  | int q =>
    cases q with
    | i8 => exact valid_i8 k hk n u f s w
    | i16 => exact valid_i16 k hk n u f s w
    | i32 => exact valid_i32 k hk n u f s w
    | i64 => exact valid_i64 k hk n u f s w
    | u8 => exact valid_u8 k hk n u f s w
    | u16 => exact valid_u16 k hk n u f s w
    | u32 => exact valid_u32 k hk n u f s w
    | u64 => exact valid_u64 k hk n u f s w
  | f64 => exact valid_f64 k hk n u f s w
  | str => exact valid_str k hk n u f s w
  | blob => exact valid_blob k hk n u f s w
  | iInt => exact valid_iInt k hk n u f s w
  | iRune => exact valid_iRune k hk n u f s w
  | iUint => exact valid_iUint k hk n u f s w
  | iFloat => exact valid_iFloat k hk n u f s w
  | other => exact valid_other k hk n u f s w
  | f32 =>
    by_cases h : (n == 0 && u == 0 && s.toList.isEmpty) = true
    · have hb : validB .f32 n u f s = single64 f := by unfold validB; rw [h]; rfl
      rw [hb]
      simp only [Bool.and_eq_true, beq_iff_eq] at h
      obtain ⟨⟨hn, hu⟩, hs⟩ := h
      cases hnan : (Ieee.double.read f).isNaN with
      | true =>
        have : single64 f = true := by unfold single64; rw [numB_nan, hnan]; rfl
        rw [this]
        exact valid_f32_nan k hk n u f s hn hu hs hnan w
      | false =>
        by_cases ho : ((Ieee.single.read (Flt.down f)).isInfinity && !(Ieee.double.read f).isInfinity) = true
        · have : single64 f = false := by unfold single64; rw [numB_nan, hnan, ho]; simp
          rw [this]
          simp only [Bool.and_eq_true, Bool.not_eq_true'] at ho
          exact valid_f32_over k hk n u f s hn hu hs ho.1 ho.2 hnan w
        · have ho' : ((Ieee.single.read (Flt.down f)).isInfinity && !(Ieee.double.read f).isInfinity) = false := by simpa using ho
          have hd := down_num hnan
          have : single64 f = ((bitsV (Flt.up (Flt.down f)) : Int) == bitsV f) := by
            unfold single64
            rw [numB_nan, hnan, ho', bitsV_num hnan, bitsV_num (Flt.up_key hd).2.2.1]
            simp only [Bool.not_false, Bool.not_true, Bool.false_or, Bool.and_true]
            rw [Bool.eq_iff_iff]
            simp only [beq_iff_eq]
            omega
          rw [this]
          exact valid_f32_num k hk n u f s hn hu hs ho' hnan hd w
    · have hb : validB .f32 n u f s = false := by unfold validB; rw [Bool.eq_false_iff.2 h]; rfl
      rw [hb]
      exact valid_f32_not k hk n u f s (Bool.eq_false_iff.2 h) w

/-- What 'concrete' tells. -/
def concB (kd : Kd) (n u : Int) (f : Nat) (s : ByteArray) : Bool := validB kd n u f s && !kd.ideal && numB f

set_option maxRecDepth 100000 in
set_option maxHeartbeats 1000000 in
theorem concrete_any (k : ByteArray) (n u : Int) (f : Nat) (s : ByteArray) (w : World) :
    Calls Tryd.prog 20 #[.agg #[.string k, .int .i64 n, .int .u64 u, .float .f64 f, .string s]] w fun e w' => e = .returned (.bool (concB (Kd.of k.toList) n u f s)) ∧ Below w.heap.size w w' := by
  have hv := fun w => valid_any k n u f s w
  have hi := fun w => isIdeal_any k w
  cases h1 : validB (Kd.of k.toList) n u f s with
  | false =>
    have hc : concB (Kd.of k.toList) n u f s = false := by unfold concB; rw [h1]; rfl
    rw [hc]
    rw [h1] at hv
    have HV := Lib.hid hv
    clear hv hi hc h1
    go_enter Tryd.func20, Tryd.ntmps20
    go_wp2_with (go_at_call 33; refine (HV.out _).mono ?_; rintro e w1 ⟨rfl, hb1⟩)
    go_ret
    exact ⟨rfl, ((Below.refl _ _).alloc (Nat.le_refl _) _).trans (hb1.mono (by simp))⟩
  | true =>
    rw [h1] at hv
    cases h2 : (Kd.of k.toList).ideal with
    | true =>
      have hc : concB (Kd.of k.toList) n u f s = false := by unfold concB; rw [h1, h2]; rfl
      rw [hc]
      rw [h2] at hi
      have HV := Lib.hid hv
      have HI := Lib.hid hi
      clear hv hi hc h1 h2
      go_enter Tryd.func20, Tryd.ntmps20
      go_wp2_with (first | (go_at_call 33; refine (HV.out _).mono ?_; rintro e w1 ⟨rfl, hb1⟩; obtain ⟨hc1, hf1⟩ := bcell hb1) | (go_at_call 34; refine (HI.out _).mono ?_; rintro e w2 ⟨rfl, rfl⟩))
      go_ret
      exact ⟨rfl, ((Below.refl _ _).alloc (Nat.le_refl _) _).trans (hb1.mono (by simp))⟩
    | false =>
      have hc : concB (Kd.of k.toList) n u f s = (FloatKind.f64.format.order f f == some .eq) := by unfold concB; rw [h1, h2]; rfl
      rw [hc]
      rw [h2] at hi
      have HV := Lib.hid hv
      have HI := Lib.hid hi
      clear hv hi hc h1 h2
      go_enter Tryd.func20, Tryd.ntmps20
      go_wp2_with (first | (go_at_call 33; refine (HV.out _).mono ?_; rintro e w1 ⟨rfl, hb1⟩; obtain ⟨hc1, hf1⟩ := bcell hb1) | (go_at_call 34; refine (HI.out _).mono ?_; rintro e w2 ⟨rfl, rfl⟩))
      go_ret
      exact ⟨rfl, ((Below.refl _ _).alloc (Nat.le_refl _) _).trans (hb1.mono (by simp))⟩

/-- The bytes of "int64". -/
def int64S : ByteArray := ⟨#[105, 110, 116, 54, 52]⟩
def empS : ByteArray := ⟨#[]⟩

set_option maxHeartbeats 400000 in
theorem num_any (n : Int) (w : World) :
    Calls Tryd.prog 18 #[.int .i64 n] w fun e w' => e = .returned (.agg #[.string int64S, .int .i64 n, .int .u64 0, .float .f64 0, .string empS]) ∧ Below w.heap.size w w' := by
  go_enter Tryd.func18, Tryd.ntmps18
  go_wp2
  exact bodyPost_ret (v := .agg #[.string int64S, .int .i64 n, .int .u64 0, .float .f64 0, .string empS]) (by simp [results, Tryd.results18, go_sem, int64S, empS]) rfl ⟨rfl, (Below.refl _ _).alloc (Nat.le_refl _) _⟩

theorem up_below {B : Nat} {w w' w'' : World} (h : Below B w w') (hB : B ≤ w.heap.size) (h2 : Below w'.heap.size w' w'') : Below B w w'' := h.trans (h2.mono (Nat.le_trans hB h.size))
theorem conc_valid {kd : Kd} {n u : Int} {f : Nat} {s : ByteArray} (h : concB kd n u f s = true) : validB kd n u f s = true := by
  unfold concB at h
  simp only [Bool.and_eq_true] at h
  exact h.1.1

end Go.Proofs.YtffgkocokkhahaaDoor

/- What a type assertion with ok gives at the types of values. PRINTED BY wip/tpl/gen_as.py. -/
namespace Go.Proofs.YtffgkocokkhahaaDoor
open Go.RowKit

@[go_sem] theorem as_bool_hit (v : Value) (w : World) : (Instr.typeAssert (.iface 4 v) 20 4 true).run Tryd.prog w = .ok (.tuple #[v, .bool true]) w := by kernel_rfl
@[go_sem] theorem as_bool_nil (w : World) : (Instr.typeAssert .nilIface 20 4 true).run Tryd.prog w = .ok (.tuple #[.bool false, .bool false]) w := by kernel_rfl
theorem as_bool_two (w : World) : (do pure (Value.tuple #[← zeroValue 4, .bool false]) : Sem Value).run Tryd.prog w = .ok (.tuple #[.bool false, .bool false]) w := by kernel_rfl
@[go_sem] theorem as_bool_miss (u : TypeId) (v : Value) (w : World) (h : u ≠ 4) : (Instr.typeAssert (.iface u v) 20 4 true).run Tryd.prog w = .ok (.tuple #[.bool false, .bool false]) w := by
  have e : (Instr.typeAssert (.iface u v) 20 4 true).run Tryd.prog w = (if u = 4 then (pure (Value.tuple #[v, .bool true]) : Sem Value) else (do pure (Value.tuple #[← zeroValue 4, .bool false]))).run Tryd.prog w := by kernel_rfl
  rw [e, if_neg h]
  exact as_bool_two w
@[go_sem] theorem as_bool_bare (v : Value) (w : World) : (Instr.typeAssert (.iface 4 v) 20 4 false).run Tryd.prog w = .ok v w := by kernel_rfl

@[go_sem] theorem as_int8_hit (v : Value) (w : World) : (Instr.typeAssert (.iface 199 v) 20 199 true).run Tryd.prog w = .ok (.tuple #[v, .bool true]) w := by kernel_rfl
@[go_sem] theorem as_int8_nil (w : World) : (Instr.typeAssert .nilIface 20 199 true).run Tryd.prog w = .ok (.tuple #[.int .i8 0, .bool false]) w := by kernel_rfl
theorem as_int8_two (w : World) : (do pure (Value.tuple #[← zeroValue 199, .bool false]) : Sem Value).run Tryd.prog w = .ok (.tuple #[.int .i8 0, .bool false]) w := by kernel_rfl
@[go_sem] theorem as_int8_miss (u : TypeId) (v : Value) (w : World) (h : u ≠ 199) : (Instr.typeAssert (.iface u v) 20 199 true).run Tryd.prog w = .ok (.tuple #[.int .i8 0, .bool false]) w := by
  have e : (Instr.typeAssert (.iface u v) 20 199 true).run Tryd.prog w = (if u = 199 then (pure (Value.tuple #[v, .bool true]) : Sem Value) else (do pure (Value.tuple #[← zeroValue 199, .bool false]))).run Tryd.prog w := by kernel_rfl
  rw [e, if_neg h]
  exact as_int8_two w
@[go_sem] theorem as_int8_bare (v : Value) (w : World) : (Instr.typeAssert (.iface 199 v) 20 199 false).run Tryd.prog w = .ok v w := by kernel_rfl

@[go_sem] theorem as_int16_hit (v : Value) (w : World) : (Instr.typeAssert (.iface 200 v) 20 200 true).run Tryd.prog w = .ok (.tuple #[v, .bool true]) w := by kernel_rfl
@[go_sem] theorem as_int16_nil (w : World) : (Instr.typeAssert .nilIface 20 200 true).run Tryd.prog w = .ok (.tuple #[.int .i16 0, .bool false]) w := by kernel_rfl
theorem as_int16_two (w : World) : (do pure (Value.tuple #[← zeroValue 200, .bool false]) : Sem Value).run Tryd.prog w = .ok (.tuple #[.int .i16 0, .bool false]) w := by kernel_rfl
@[go_sem] theorem as_int16_miss (u : TypeId) (v : Value) (w : World) (h : u ≠ 200) : (Instr.typeAssert (.iface u v) 20 200 true).run Tryd.prog w = .ok (.tuple #[.int .i16 0, .bool false]) w := by
  have e : (Instr.typeAssert (.iface u v) 20 200 true).run Tryd.prog w = (if u = 200 then (pure (Value.tuple #[v, .bool true]) : Sem Value) else (do pure (Value.tuple #[← zeroValue 200, .bool false]))).run Tryd.prog w := by kernel_rfl
  rw [e, if_neg h]
  exact as_int16_two w
@[go_sem] theorem as_int16_bare (v : Value) (w : World) : (Instr.typeAssert (.iface 200 v) 20 200 false).run Tryd.prog w = .ok v w := by kernel_rfl

@[go_sem] theorem as_int32_hit (v : Value) (w : World) : (Instr.typeAssert (.iface 21 v) 20 21 true).run Tryd.prog w = .ok (.tuple #[v, .bool true]) w := by kernel_rfl
@[go_sem] theorem as_int32_nil (w : World) : (Instr.typeAssert .nilIface 20 21 true).run Tryd.prog w = .ok (.tuple #[.int .i32 0, .bool false]) w := by kernel_rfl
theorem as_int32_two (w : World) : (do pure (Value.tuple #[← zeroValue 21, .bool false]) : Sem Value).run Tryd.prog w = .ok (.tuple #[.int .i32 0, .bool false]) w := by kernel_rfl
@[go_sem] theorem as_int32_miss (u : TypeId) (v : Value) (w : World) (h : u ≠ 21) : (Instr.typeAssert (.iface u v) 20 21 true).run Tryd.prog w = .ok (.tuple #[.int .i32 0, .bool false]) w := by
  have e : (Instr.typeAssert (.iface u v) 20 21 true).run Tryd.prog w = (if u = 21 then (pure (Value.tuple #[v, .bool true]) : Sem Value) else (do pure (Value.tuple #[← zeroValue 21, .bool false]))).run Tryd.prog w := by kernel_rfl
  rw [e, if_neg h]
  exact as_int32_two w
@[go_sem] theorem as_int32_bare (v : Value) (w : World) : (Instr.typeAssert (.iface 21 v) 20 21 false).run Tryd.prog w = .ok v w := by kernel_rfl

@[go_sem] theorem as_int64_hit (v : Value) (w : World) : (Instr.typeAssert (.iface 2 v) 20 2 true).run Tryd.prog w = .ok (.tuple #[v, .bool true]) w := by kernel_rfl
@[go_sem] theorem as_int64_nil (w : World) : (Instr.typeAssert .nilIface 20 2 true).run Tryd.prog w = .ok (.tuple #[.int .i64 0, .bool false]) w := by kernel_rfl
theorem as_int64_two (w : World) : (do pure (Value.tuple #[← zeroValue 2, .bool false]) : Sem Value).run Tryd.prog w = .ok (.tuple #[.int .i64 0, .bool false]) w := by kernel_rfl
@[go_sem] theorem as_int64_miss (u : TypeId) (v : Value) (w : World) (h : u ≠ 2) : (Instr.typeAssert (.iface u v) 20 2 true).run Tryd.prog w = .ok (.tuple #[.int .i64 0, .bool false]) w := by
  have e : (Instr.typeAssert (.iface u v) 20 2 true).run Tryd.prog w = (if u = 2 then (pure (Value.tuple #[v, .bool true]) : Sem Value) else (do pure (Value.tuple #[← zeroValue 2, .bool false]))).run Tryd.prog w := by kernel_rfl
  rw [e, if_neg h]
  exact as_int64_two w
@[go_sem] theorem as_int64_bare (v : Value) (w : World) : (Instr.typeAssert (.iface 2 v) 20 2 false).run Tryd.prog w = .ok v w := by kernel_rfl

@[go_sem] theorem as_uint8_hit (v : Value) (w : World) : (Instr.typeAssert (.iface 5 v) 20 5 true).run Tryd.prog w = .ok (.tuple #[v, .bool true]) w := by kernel_rfl
@[go_sem] theorem as_uint8_nil (w : World) : (Instr.typeAssert .nilIface 20 5 true).run Tryd.prog w = .ok (.tuple #[.int .u8 0, .bool false]) w := by kernel_rfl
theorem as_uint8_two (w : World) : (do pure (Value.tuple #[← zeroValue 5, .bool false]) : Sem Value).run Tryd.prog w = .ok (.tuple #[.int .u8 0, .bool false]) w := by kernel_rfl
@[go_sem] theorem as_uint8_miss (u : TypeId) (v : Value) (w : World) (h : u ≠ 5) : (Instr.typeAssert (.iface u v) 20 5 true).run Tryd.prog w = .ok (.tuple #[.int .u8 0, .bool false]) w := by
  have e : (Instr.typeAssert (.iface u v) 20 5 true).run Tryd.prog w = (if u = 5 then (pure (Value.tuple #[v, .bool true]) : Sem Value) else (do pure (Value.tuple #[← zeroValue 5, .bool false]))).run Tryd.prog w := by kernel_rfl
  rw [e, if_neg h]
  exact as_uint8_two w
@[go_sem] theorem as_uint8_bare (v : Value) (w : World) : (Instr.typeAssert (.iface 5 v) 20 5 false).run Tryd.prog w = .ok v w := by kernel_rfl

@[go_sem] theorem as_uint16_hit (v : Value) (w : World) : (Instr.typeAssert (.iface 201 v) 20 201 true).run Tryd.prog w = .ok (.tuple #[v, .bool true]) w := by kernel_rfl
@[go_sem] theorem as_uint16_nil (w : World) : (Instr.typeAssert .nilIface 20 201 true).run Tryd.prog w = .ok (.tuple #[.int .u16 0, .bool false]) w := by kernel_rfl
theorem as_uint16_two (w : World) : (do pure (Value.tuple #[← zeroValue 201, .bool false]) : Sem Value).run Tryd.prog w = .ok (.tuple #[.int .u16 0, .bool false]) w := by kernel_rfl
@[go_sem] theorem as_uint16_miss (u : TypeId) (v : Value) (w : World) (h : u ≠ 201) : (Instr.typeAssert (.iface u v) 20 201 true).run Tryd.prog w = .ok (.tuple #[.int .u16 0, .bool false]) w := by
  have e : (Instr.typeAssert (.iface u v) 20 201 true).run Tryd.prog w = (if u = 201 then (pure (Value.tuple #[v, .bool true]) : Sem Value) else (do pure (Value.tuple #[← zeroValue 201, .bool false]))).run Tryd.prog w := by kernel_rfl
  rw [e, if_neg h]
  exact as_uint16_two w
@[go_sem] theorem as_uint16_bare (v : Value) (w : World) : (Instr.typeAssert (.iface 201 v) 20 201 false).run Tryd.prog w = .ok v w := by kernel_rfl

@[go_sem] theorem as_uint32_hit (v : Value) (w : World) : (Instr.typeAssert (.iface 156 v) 20 156 true).run Tryd.prog w = .ok (.tuple #[v, .bool true]) w := by kernel_rfl
@[go_sem] theorem as_uint32_nil (w : World) : (Instr.typeAssert .nilIface 20 156 true).run Tryd.prog w = .ok (.tuple #[.int .u32 0, .bool false]) w := by kernel_rfl
theorem as_uint32_two (w : World) : (do pure (Value.tuple #[← zeroValue 156, .bool false]) : Sem Value).run Tryd.prog w = .ok (.tuple #[.int .u32 0, .bool false]) w := by kernel_rfl
@[go_sem] theorem as_uint32_miss (u : TypeId) (v : Value) (w : World) (h : u ≠ 156) : (Instr.typeAssert (.iface u v) 20 156 true).run Tryd.prog w = .ok (.tuple #[.int .u32 0, .bool false]) w := by
  have e : (Instr.typeAssert (.iface u v) 20 156 true).run Tryd.prog w = (if u = 156 then (pure (Value.tuple #[v, .bool true]) : Sem Value) else (do pure (Value.tuple #[← zeroValue 156, .bool false]))).run Tryd.prog w := by kernel_rfl
  rw [e, if_neg h]
  exact as_uint32_two w
@[go_sem] theorem as_uint32_bare (v : Value) (w : World) : (Instr.typeAssert (.iface 156 v) 20 156 false).run Tryd.prog w = .ok v w := by kernel_rfl

@[go_sem] theorem as_uint64_hit (v : Value) (w : World) : (Instr.typeAssert (.iface 55 v) 20 55 true).run Tryd.prog w = .ok (.tuple #[v, .bool true]) w := by kernel_rfl
@[go_sem] theorem as_uint64_nil (w : World) : (Instr.typeAssert .nilIface 20 55 true).run Tryd.prog w = .ok (.tuple #[.int .u64 0, .bool false]) w := by kernel_rfl
theorem as_uint64_two (w : World) : (do pure (Value.tuple #[← zeroValue 55, .bool false]) : Sem Value).run Tryd.prog w = .ok (.tuple #[.int .u64 0, .bool false]) w := by kernel_rfl
@[go_sem] theorem as_uint64_miss (u : TypeId) (v : Value) (w : World) (h : u ≠ 55) : (Instr.typeAssert (.iface u v) 20 55 true).run Tryd.prog w = .ok (.tuple #[.int .u64 0, .bool false]) w := by
  have e : (Instr.typeAssert (.iface u v) 20 55 true).run Tryd.prog w = (if u = 55 then (pure (Value.tuple #[v, .bool true]) : Sem Value) else (do pure (Value.tuple #[← zeroValue 55, .bool false]))).run Tryd.prog w := by kernel_rfl
  rw [e, if_neg h]
  exact as_uint64_two w
@[go_sem] theorem as_uint64_bare (v : Value) (w : World) : (Instr.typeAssert (.iface 55 v) 20 55 false).run Tryd.prog w = .ok v w := by kernel_rfl

@[go_sem] theorem as_float32_hit (v : Value) (w : World) : (Instr.typeAssert (.iface 121 v) 20 121 true).run Tryd.prog w = .ok (.tuple #[v, .bool true]) w := by kernel_rfl
@[go_sem] theorem as_float32_nil (w : World) : (Instr.typeAssert .nilIface 20 121 true).run Tryd.prog w = .ok (.tuple #[.float .f32 0, .bool false]) w := by kernel_rfl
theorem as_float32_two (w : World) : (do pure (Value.tuple #[← zeroValue 121, .bool false]) : Sem Value).run Tryd.prog w = .ok (.tuple #[.float .f32 0, .bool false]) w := by kernel_rfl
@[go_sem] theorem as_float32_miss (u : TypeId) (v : Value) (w : World) (h : u ≠ 121) : (Instr.typeAssert (.iface u v) 20 121 true).run Tryd.prog w = .ok (.tuple #[.float .f32 0, .bool false]) w := by
  have e : (Instr.typeAssert (.iface u v) 20 121 true).run Tryd.prog w = (if u = 121 then (pure (Value.tuple #[v, .bool true]) : Sem Value) else (do pure (Value.tuple #[← zeroValue 121, .bool false]))).run Tryd.prog w := by kernel_rfl
  rw [e, if_neg h]
  exact as_float32_two w
@[go_sem] theorem as_float32_bare (v : Value) (w : World) : (Instr.typeAssert (.iface 121 v) 20 121 false).run Tryd.prog w = .ok v w := by kernel_rfl

@[go_sem] theorem as_float64_hit (v : Value) (w : World) : (Instr.typeAssert (.iface 56 v) 20 56 true).run Tryd.prog w = .ok (.tuple #[v, .bool true]) w := by kernel_rfl
@[go_sem] theorem as_float64_nil (w : World) : (Instr.typeAssert .nilIface 20 56 true).run Tryd.prog w = .ok (.tuple #[.float .f64 0, .bool false]) w := by kernel_rfl
theorem as_float64_two (w : World) : (do pure (Value.tuple #[← zeroValue 56, .bool false]) : Sem Value).run Tryd.prog w = .ok (.tuple #[.float .f64 0, .bool false]) w := by kernel_rfl
@[go_sem] theorem as_float64_miss (u : TypeId) (v : Value) (w : World) (h : u ≠ 56) : (Instr.typeAssert (.iface u v) 20 56 true).run Tryd.prog w = .ok (.tuple #[.float .f64 0, .bool false]) w := by
  have e : (Instr.typeAssert (.iface u v) 20 56 true).run Tryd.prog w = (if u = 56 then (pure (Value.tuple #[v, .bool true]) : Sem Value) else (do pure (Value.tuple #[← zeroValue 56, .bool false]))).run Tryd.prog w := by kernel_rfl
  rw [e, if_neg h]
  exact as_float64_two w
@[go_sem] theorem as_float64_bare (v : Value) (w : World) : (Instr.typeAssert (.iface 56 v) 20 56 false).run Tryd.prog w = .ok v w := by kernel_rfl

@[go_sem] theorem as_string_hit (v : Value) (w : World) : (Instr.typeAssert (.iface 9 v) 20 9 true).run Tryd.prog w = .ok (.tuple #[v, .bool true]) w := by kernel_rfl
@[go_sem] theorem as_string_nil (w : World) : (Instr.typeAssert .nilIface 20 9 true).run Tryd.prog w = .ok (.tuple #[.string ⟨#[]⟩, .bool false]) w := by kernel_rfl
theorem as_string_two (w : World) : (do pure (Value.tuple #[← zeroValue 9, .bool false]) : Sem Value).run Tryd.prog w = .ok (.tuple #[.string ⟨#[]⟩, .bool false]) w := by kernel_rfl
@[go_sem] theorem as_string_miss (u : TypeId) (v : Value) (w : World) (h : u ≠ 9) : (Instr.typeAssert (.iface u v) 20 9 true).run Tryd.prog w = .ok (.tuple #[.string ⟨#[]⟩, .bool false]) w := by
  have e : (Instr.typeAssert (.iface u v) 20 9 true).run Tryd.prog w = (if u = 9 then (pure (Value.tuple #[v, .bool true]) : Sem Value) else (do pure (Value.tuple #[← zeroValue 9, .bool false]))).run Tryd.prog w := by kernel_rfl
  rw [e, if_neg h]
  exact as_string_two w
@[go_sem] theorem as_string_bare (v : Value) (w : World) : (Instr.typeAssert (.iface 9 v) 20 9 false).run Tryd.prog w = .ok v w := by kernel_rfl

@[go_sem] theorem as_suint8_hit (v : Value) (w : World) : (Instr.typeAssert (.iface 202 v) 20 202 true).run Tryd.prog w = .ok (.tuple #[v, .bool true]) w := by kernel_rfl
@[go_sem] theorem as_suint8_nil (w : World) : (Instr.typeAssert .nilIface 20 202 true).run Tryd.prog w = .ok (.tuple #[.slice none 0 0, .bool false]) w := by kernel_rfl
theorem as_suint8_two (w : World) : (do pure (Value.tuple #[← zeroValue 202, .bool false]) : Sem Value).run Tryd.prog w = .ok (.tuple #[.slice none 0 0, .bool false]) w := by kernel_rfl
@[go_sem] theorem as_suint8_miss (u : TypeId) (v : Value) (w : World) (h : u ≠ 202) : (Instr.typeAssert (.iface u v) 20 202 true).run Tryd.prog w = .ok (.tuple #[.slice none 0 0, .bool false]) w := by
  have e : (Instr.typeAssert (.iface u v) 20 202 true).run Tryd.prog w = (if u = 202 then (pure (Value.tuple #[v, .bool true]) : Sem Value) else (do pure (Value.tuple #[← zeroValue 202, .bool false]))).run Tryd.prog w := by kernel_rfl
  rw [e, if_neg h]
  exact as_suint8_two w
@[go_sem] theorem as_suint8_bare (v : Value) (w : World) : (Instr.typeAssert (.iface 202 v) 20 202 false).run Tryd.prog w = .ok v w := by kernel_rfl

@[go_sem] theorem as_idealInt_hit (v : Value) (w : World) : (Instr.typeAssert (.iface 249 v) 20 249 true).run Tryd.prog w = .ok (.tuple #[v, .bool true]) w := by kernel_rfl
@[go_sem] theorem as_idealInt_nil (w : World) : (Instr.typeAssert .nilIface 20 249 true).run Tryd.prog w = .ok (.tuple #[.int .i64 0, .bool false]) w := by kernel_rfl
theorem as_idealInt_two (w : World) : (do pure (Value.tuple #[← zeroValue 249, .bool false]) : Sem Value).run Tryd.prog w = .ok (.tuple #[.int .i64 0, .bool false]) w := by kernel_rfl
@[go_sem] theorem as_idealInt_miss (u : TypeId) (v : Value) (w : World) (h : u ≠ 249) : (Instr.typeAssert (.iface u v) 20 249 true).run Tryd.prog w = .ok (.tuple #[.int .i64 0, .bool false]) w := by
  have e : (Instr.typeAssert (.iface u v) 20 249 true).run Tryd.prog w = (if u = 249 then (pure (Value.tuple #[v, .bool true]) : Sem Value) else (do pure (Value.tuple #[← zeroValue 249, .bool false]))).run Tryd.prog w := by kernel_rfl
  rw [e, if_neg h]
  exact as_idealInt_two w
@[go_sem] theorem as_idealInt_bare (v : Value) (w : World) : (Instr.typeAssert (.iface 249 v) 20 249 false).run Tryd.prog w = .ok v w := by kernel_rfl

@[go_sem] theorem as_idealRune_hit (v : Value) (w : World) : (Instr.typeAssert (.iface 250 v) 20 250 true).run Tryd.prog w = .ok (.tuple #[v, .bool true]) w := by kernel_rfl
@[go_sem] theorem as_idealRune_nil (w : World) : (Instr.typeAssert .nilIface 20 250 true).run Tryd.prog w = .ok (.tuple #[.int .i32 0, .bool false]) w := by kernel_rfl
theorem as_idealRune_two (w : World) : (do pure (Value.tuple #[← zeroValue 250, .bool false]) : Sem Value).run Tryd.prog w = .ok (.tuple #[.int .i32 0, .bool false]) w := by kernel_rfl
@[go_sem] theorem as_idealRune_miss (u : TypeId) (v : Value) (w : World) (h : u ≠ 250) : (Instr.typeAssert (.iface u v) 20 250 true).run Tryd.prog w = .ok (.tuple #[.int .i32 0, .bool false]) w := by
  have e : (Instr.typeAssert (.iface u v) 20 250 true).run Tryd.prog w = (if u = 250 then (pure (Value.tuple #[v, .bool true]) : Sem Value) else (do pure (Value.tuple #[← zeroValue 250, .bool false]))).run Tryd.prog w := by kernel_rfl
  rw [e, if_neg h]
  exact as_idealRune_two w
@[go_sem] theorem as_idealRune_bare (v : Value) (w : World) : (Instr.typeAssert (.iface 250 v) 20 250 false).run Tryd.prog w = .ok v w := by kernel_rfl

@[go_sem] theorem as_idealUint_hit (v : Value) (w : World) : (Instr.typeAssert (.iface 251 v) 20 251 true).run Tryd.prog w = .ok (.tuple #[v, .bool true]) w := by kernel_rfl
@[go_sem] theorem as_idealUint_nil (w : World) : (Instr.typeAssert .nilIface 20 251 true).run Tryd.prog w = .ok (.tuple #[.int .u64 0, .bool false]) w := by kernel_rfl
theorem as_idealUint_two (w : World) : (do pure (Value.tuple #[← zeroValue 251, .bool false]) : Sem Value).run Tryd.prog w = .ok (.tuple #[.int .u64 0, .bool false]) w := by kernel_rfl
@[go_sem] theorem as_idealUint_miss (u : TypeId) (v : Value) (w : World) (h : u ≠ 251) : (Instr.typeAssert (.iface u v) 20 251 true).run Tryd.prog w = .ok (.tuple #[.int .u64 0, .bool false]) w := by
  have e : (Instr.typeAssert (.iface u v) 20 251 true).run Tryd.prog w = (if u = 251 then (pure (Value.tuple #[v, .bool true]) : Sem Value) else (do pure (Value.tuple #[← zeroValue 251, .bool false]))).run Tryd.prog w := by kernel_rfl
  rw [e, if_neg h]
  exact as_idealUint_two w
@[go_sem] theorem as_idealUint_bare (v : Value) (w : World) : (Instr.typeAssert (.iface 251 v) 20 251 false).run Tryd.prog w = .ok v w := by kernel_rfl

@[go_sem] theorem as_idealFloat_hit (v : Value) (w : World) : (Instr.typeAssert (.iface 252 v) 20 252 true).run Tryd.prog w = .ok (.tuple #[v, .bool true]) w := by kernel_rfl
@[go_sem] theorem as_idealFloat_nil (w : World) : (Instr.typeAssert .nilIface 20 252 true).run Tryd.prog w = .ok (.tuple #[.float .f64 0, .bool false]) w := by kernel_rfl
theorem as_idealFloat_two (w : World) : (do pure (Value.tuple #[← zeroValue 252, .bool false]) : Sem Value).run Tryd.prog w = .ok (.tuple #[.float .f64 0, .bool false]) w := by kernel_rfl
@[go_sem] theorem as_idealFloat_miss (u : TypeId) (v : Value) (w : World) (h : u ≠ 252) : (Instr.typeAssert (.iface u v) 20 252 true).run Tryd.prog w = .ok (.tuple #[.float .f64 0, .bool false]) w := by
  have e : (Instr.typeAssert (.iface u v) 20 252 true).run Tryd.prog w = (if u = 252 then (pure (Value.tuple #[v, .bool true]) : Sem Value) else (do pure (Value.tuple #[← zeroValue 252, .bool false]))).run Tryd.prog w := by kernel_rfl
  rw [e, if_neg h]
  exact as_idealFloat_two w
@[go_sem] theorem as_idealFloat_bare (v : Value) (w : World) : (Instr.typeAssert (.iface 252 v) 20 252 false).run Tryd.prog w = .ok v w := by kernel_rfl

@[go_sem] theorem as_int_hit (v : Value) (w : World) : (Instr.typeAssert (.iface 3 v) 20 3 true).run Tryd.prog w = .ok (.tuple #[v, .bool true]) w := by kernel_rfl
@[go_sem] theorem as_int_nil (w : World) : (Instr.typeAssert .nilIface 20 3 true).run Tryd.prog w = .ok (.tuple #[.int .i64 0, .bool false]) w := by kernel_rfl
theorem as_int_two (w : World) : (do pure (Value.tuple #[← zeroValue 3, .bool false]) : Sem Value).run Tryd.prog w = .ok (.tuple #[.int .i64 0, .bool false]) w := by kernel_rfl
@[go_sem] theorem as_int_miss (u : TypeId) (v : Value) (w : World) (h : u ≠ 3) : (Instr.typeAssert (.iface u v) 20 3 true).run Tryd.prog w = .ok (.tuple #[.int .i64 0, .bool false]) w := by
  have e : (Instr.typeAssert (.iface u v) 20 3 true).run Tryd.prog w = (if u = 3 then (pure (Value.tuple #[v, .bool true]) : Sem Value) else (do pure (Value.tuple #[← zeroValue 3, .bool false]))).run Tryd.prog w := by kernel_rfl
  rw [e, if_neg h]
  exact as_int_two w
@[go_sem] theorem as_int_bare (v : Value) (w : World) : (Instr.typeAssert (.iface 3 v) 20 3 false).run Tryd.prog w = .ok v w := by kernel_rfl

@[go_sem] theorem as_uint_hit (v : Value) (w : World) : (Instr.typeAssert (.iface 120 v) 20 120 true).run Tryd.prog w = .ok (.tuple #[v, .bool true]) w := by kernel_rfl
@[go_sem] theorem as_uint_nil (w : World) : (Instr.typeAssert .nilIface 20 120 true).run Tryd.prog w = .ok (.tuple #[.int .u64 0, .bool false]) w := by kernel_rfl
theorem as_uint_two (w : World) : (do pure (Value.tuple #[← zeroValue 120, .bool false]) : Sem Value).run Tryd.prog w = .ok (.tuple #[.int .u64 0, .bool false]) w := by kernel_rfl
@[go_sem] theorem as_uint_miss (u : TypeId) (v : Value) (w : World) (h : u ≠ 120) : (Instr.typeAssert (.iface u v) 20 120 true).run Tryd.prog w = .ok (.tuple #[.int .u64 0, .bool false]) w := by
  have e : (Instr.typeAssert (.iface u v) 20 120 true).run Tryd.prog w = (if u = 120 then (pure (Value.tuple #[v, .bool true]) : Sem Value) else (do pure (Value.tuple #[← zeroValue 120, .bool false]))).run Tryd.prog w := by kernel_rfl
  rw [e, if_neg h]
  exact as_uint_two w
@[go_sem] theorem as_uint_bare (v : Value) (w : World) : (Instr.typeAssert (.iface 120 v) 20 120 false).run Tryd.prog w = .ok v w := by kernel_rfl

end Go.Proofs.YtffgkocokkhahaaDoor
