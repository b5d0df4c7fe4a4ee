/-
  What a type assertion with ok gives at the types of values. PRINTED BY wip/tpl/gen_as.py.
-/
import Derived.Test.YtiijcmdfbgoafaaBase
namespace Go.Proofs.Ytiijcmdfbgoafaa
open Go.RowKit

@[go_sem] theorem as_bool_hit (v : Value) (w : World) : (Instr.typeAssert (.iface 4 v) 20 4 true).run Try.prog w = .ok (.tuple #[v, .bool true]) w := by kernel_rfl
@[go_sem] theorem as_bool_nil (w : World) : (Instr.typeAssert .nilIface 20 4 true).run Try.prog w = .ok (.tuple #[.bool false, .bool false]) w := by kernel_rfl
theorem as_bool_two (w : World) : (do pure (Value.tuple #[← zeroValue 4, .bool false]) : Sem Value).run Try.prog w = .ok (.tuple #[.bool false, .bool false]) w := by kernel_rfl
@[go_sem] theorem as_bool_miss (u : TypeId) (v : Value) (w : World) (h : u ≠ 4) : (Instr.typeAssert (.iface u v) 20 4 true).run Try.prog w = .ok (.tuple #[.bool false, .bool false]) w := by
  have e : (Instr.typeAssert (.iface u v) 20 4 true).run Try.prog w = (if u = 4 then (pure (Value.tuple #[v, .bool true]) : Sem Value) else (do pure (Value.tuple #[← zeroValue 4, .bool false]))).run Try.prog w := by kernel_rfl
  rw [e, if_neg h]
  exact as_bool_two w
@[go_sem] theorem as_bool_bare (v : Value) (w : World) : (Instr.typeAssert (.iface 4 v) 20 4 false).run Try.prog w = .ok v w := by kernel_rfl

@[go_sem] theorem as_int8_hit (v : Value) (w : World) : (Instr.typeAssert (.iface 59 v) 20 59 true).run Try.prog w = .ok (.tuple #[v, .bool true]) w := by kernel_rfl
@[go_sem] theorem as_int8_nil (w : World) : (Instr.typeAssert .nilIface 20 59 true).run Try.prog w = .ok (.tuple #[.int .i8 0, .bool false]) w := by kernel_rfl
theorem as_int8_two (w : World) : (do pure (Value.tuple #[← zeroValue 59, .bool false]) : Sem Value).run Try.prog w = .ok (.tuple #[.int .i8 0, .bool false]) w := by kernel_rfl
@[go_sem] theorem as_int8_miss (u : TypeId) (v : Value) (w : World) (h : u ≠ 59) : (Instr.typeAssert (.iface u v) 20 59 true).run Try.prog w = .ok (.tuple #[.int .i8 0, .bool false]) w := by
  have e : (Instr.typeAssert (.iface u v) 20 59 true).run Try.prog w = (if u = 59 then (pure (Value.tuple #[v, .bool true]) : Sem Value) else (do pure (Value.tuple #[← zeroValue 59, .bool false]))).run Try.prog w := by kernel_rfl
  rw [e, if_neg h]
  exact as_int8_two w
@[go_sem] theorem as_int8_bare (v : Value) (w : World) : (Instr.typeAssert (.iface 59 v) 20 59 false).run Try.prog w = .ok v w := by kernel_rfl

@[go_sem] theorem as_int16_hit (v : Value) (w : World) : (Instr.typeAssert (.iface 60 v) 20 60 true).run Try.prog w = .ok (.tuple #[v, .bool true]) w := by kernel_rfl
@[go_sem] theorem as_int16_nil (w : World) : (Instr.typeAssert .nilIface 20 60 true).run Try.prog w = .ok (.tuple #[.int .i16 0, .bool false]) w := by kernel_rfl
theorem as_int16_two (w : World) : (do pure (Value.tuple #[← zeroValue 60, .bool false]) : Sem Value).run Try.prog w = .ok (.tuple #[.int .i16 0, .bool false]) w := by kernel_rfl
@[go_sem] theorem as_int16_miss (u : TypeId) (v : Value) (w : World) (h : u ≠ 60) : (Instr.typeAssert (.iface u v) 20 60 true).run Try.prog w = .ok (.tuple #[.int .i16 0, .bool false]) w := by
  have e : (Instr.typeAssert (.iface u v) 20 60 true).run Try.prog w = (if u = 60 then (pure (Value.tuple #[v, .bool true]) : Sem Value) else (do pure (Value.tuple #[← zeroValue 60, .bool false]))).run Try.prog w := by kernel_rfl
  rw [e, if_neg h]
  exact as_int16_two w
@[go_sem] theorem as_int16_bare (v : Value) (w : World) : (Instr.typeAssert (.iface 60 v) 20 60 false).run Try.prog w = .ok v w := by kernel_rfl

@[go_sem] theorem as_int32_hit (v : Value) (w : World) : (Instr.typeAssert (.iface 21 v) 20 21 true).run Try.prog w = .ok (.tuple #[v, .bool true]) w := by kernel_rfl
@[go_sem] theorem as_int32_nil (w : World) : (Instr.typeAssert .nilIface 20 21 true).run Try.prog w = .ok (.tuple #[.int .i32 0, .bool false]) w := by kernel_rfl
theorem as_int32_two (w : World) : (do pure (Value.tuple #[← zeroValue 21, .bool false]) : Sem Value).run Try.prog w = .ok (.tuple #[.int .i32 0, .bool false]) w := by kernel_rfl
@[go_sem] theorem as_int32_miss (u : TypeId) (v : Value) (w : World) (h : u ≠ 21) : (Instr.typeAssert (.iface u v) 20 21 true).run Try.prog w = .ok (.tuple #[.int .i32 0, .bool false]) w := by
  have e : (Instr.typeAssert (.iface u v) 20 21 true).run Try.prog w = (if u = 21 then (pure (Value.tuple #[v, .bool true]) : Sem Value) else (do pure (Value.tuple #[← zeroValue 21, .bool false]))).run Try.prog w := by kernel_rfl
  rw [e, if_neg h]
  exact as_int32_two w
@[go_sem] theorem as_int32_bare (v : Value) (w : World) : (Instr.typeAssert (.iface 21 v) 20 21 false).run Try.prog w = .ok v w := by kernel_rfl

@[go_sem] theorem as_int64_hit (v : Value) (w : World) : (Instr.typeAssert (.iface 2 v) 20 2 true).run Try.prog w = .ok (.tuple #[v, .bool true]) w := by kernel_rfl
@[go_sem] theorem as_int64_nil (w : World) : (Instr.typeAssert .nilIface 20 2 true).run Try.prog w = .ok (.tuple #[.int .i64 0, .bool false]) w := by kernel_rfl
theorem as_int64_two (w : World) : (do pure (Value.tuple #[← zeroValue 2, .bool false]) : Sem Value).run Try.prog w = .ok (.tuple #[.int .i64 0, .bool false]) w := by kernel_rfl
@[go_sem] theorem as_int64_miss (u : TypeId) (v : Value) (w : World) (h : u ≠ 2) : (Instr.typeAssert (.iface u v) 20 2 true).run Try.prog w = .ok (.tuple #[.int .i64 0, .bool false]) w := by
  have e : (Instr.typeAssert (.iface u v) 20 2 true).run Try.prog w = (if u = 2 then (pure (Value.tuple #[v, .bool true]) : Sem Value) else (do pure (Value.tuple #[← zeroValue 2, .bool false]))).run Try.prog w := by kernel_rfl
  rw [e, if_neg h]
  exact as_int64_two w
@[go_sem] theorem as_int64_bare (v : Value) (w : World) : (Instr.typeAssert (.iface 2 v) 20 2 false).run Try.prog w = .ok v w := by kernel_rfl

@[go_sem] theorem as_uint8_hit (v : Value) (w : World) : (Instr.typeAssert (.iface 5 v) 20 5 true).run Try.prog w = .ok (.tuple #[v, .bool true]) w := by kernel_rfl
@[go_sem] theorem as_uint8_nil (w : World) : (Instr.typeAssert .nilIface 20 5 true).run Try.prog w = .ok (.tuple #[.int .u8 0, .bool false]) w := by kernel_rfl
theorem as_uint8_two (w : World) : (do pure (Value.tuple #[← zeroValue 5, .bool false]) : Sem Value).run Try.prog w = .ok (.tuple #[.int .u8 0, .bool false]) w := by kernel_rfl
@[go_sem] theorem as_uint8_miss (u : TypeId) (v : Value) (w : World) (h : u ≠ 5) : (Instr.typeAssert (.iface u v) 20 5 true).run Try.prog w = .ok (.tuple #[.int .u8 0, .bool false]) w := by
  have e : (Instr.typeAssert (.iface u v) 20 5 true).run Try.prog w = (if u = 5 then (pure (Value.tuple #[v, .bool true]) : Sem Value) else (do pure (Value.tuple #[← zeroValue 5, .bool false]))).run Try.prog w := by kernel_rfl
  rw [e, if_neg h]
  exact as_uint8_two w
@[go_sem] theorem as_uint8_bare (v : Value) (w : World) : (Instr.typeAssert (.iface 5 v) 20 5 false).run Try.prog w = .ok v w := by kernel_rfl

@[go_sem] theorem as_uint16_hit (v : Value) (w : World) : (Instr.typeAssert (.iface 61 v) 20 61 true).run Try.prog w = .ok (.tuple #[v, .bool true]) w := by kernel_rfl
@[go_sem] theorem as_uint16_nil (w : World) : (Instr.typeAssert .nilIface 20 61 true).run Try.prog w = .ok (.tuple #[.int .u16 0, .bool false]) w := by kernel_rfl
theorem as_uint16_two (w : World) : (do pure (Value.tuple #[← zeroValue 61, .bool false]) : Sem Value).run Try.prog w = .ok (.tuple #[.int .u16 0, .bool false]) w := by kernel_rfl
@[go_sem] theorem as_uint16_miss (u : TypeId) (v : Value) (w : World) (h : u ≠ 61) : (Instr.typeAssert (.iface u v) 20 61 true).run Try.prog w = .ok (.tuple #[.int .u16 0, .bool false]) w := by
  have e : (Instr.typeAssert (.iface u v) 20 61 true).run Try.prog w = (if u = 61 then (pure (Value.tuple #[v, .bool true]) : Sem Value) else (do pure (Value.tuple #[← zeroValue 61, .bool false]))).run Try.prog w := by kernel_rfl
  rw [e, if_neg h]
  exact as_uint16_two w
@[go_sem] theorem as_uint16_bare (v : Value) (w : World) : (Instr.typeAssert (.iface 61 v) 20 61 false).run Try.prog w = .ok v w := by kernel_rfl

@[go_sem] theorem as_uint32_hit (v : Value) (w : World) : (Instr.typeAssert (.iface 62 v) 20 62 true).run Try.prog w = .ok (.tuple #[v, .bool true]) w := by kernel_rfl
@[go_sem] theorem as_uint32_nil (w : World) : (Instr.typeAssert .nilIface 20 62 true).run Try.prog w = .ok (.tuple #[.int .u32 0, .bool false]) w := by kernel_rfl
theorem as_uint32_two (w : World) : (do pure (Value.tuple #[← zeroValue 62, .bool false]) : Sem Value).run Try.prog w = .ok (.tuple #[.int .u32 0, .bool false]) w := by kernel_rfl
@[go_sem] theorem as_uint32_miss (u : TypeId) (v : Value) (w : World) (h : u ≠ 62) : (Instr.typeAssert (.iface u v) 20 62 true).run Try.prog w = .ok (.tuple #[.int .u32 0, .bool false]) w := by
  have e : (Instr.typeAssert (.iface u v) 20 62 true).run Try.prog w = (if u = 62 then (pure (Value.tuple #[v, .bool true]) : Sem Value) else (do pure (Value.tuple #[← zeroValue 62, .bool false]))).run Try.prog w := by kernel_rfl
  rw [e, if_neg h]
  exact as_uint32_two w
@[go_sem] theorem as_uint32_bare (v : Value) (w : World) : (Instr.typeAssert (.iface 62 v) 20 62 false).run Try.prog w = .ok v w := by kernel_rfl

@[go_sem] theorem as_uint64_hit (v : Value) (w : World) : (Instr.typeAssert (.iface 22 v) 20 22 true).run Try.prog w = .ok (.tuple #[v, .bool true]) w := by kernel_rfl
@[go_sem] theorem as_uint64_nil (w : World) : (Instr.typeAssert .nilIface 20 22 true).run Try.prog w = .ok (.tuple #[.int .u64 0, .bool false]) w := by kernel_rfl
theorem as_uint64_two (w : World) : (do pure (Value.tuple #[← zeroValue 22, .bool false]) : Sem Value).run Try.prog w = .ok (.tuple #[.int .u64 0, .bool false]) w := by kernel_rfl
@[go_sem] theorem as_uint64_miss (u : TypeId) (v : Value) (w : World) (h : u ≠ 22) : (Instr.typeAssert (.iface u v) 20 22 true).run Try.prog w = .ok (.tuple #[.int .u64 0, .bool false]) w := by
  have e : (Instr.typeAssert (.iface u v) 20 22 true).run Try.prog w = (if u = 22 then (pure (Value.tuple #[v, .bool true]) : Sem Value) else (do pure (Value.tuple #[← zeroValue 22, .bool false]))).run Try.prog w := by kernel_rfl
  rw [e, if_neg h]
  exact as_uint64_two w
@[go_sem] theorem as_uint64_bare (v : Value) (w : World) : (Instr.typeAssert (.iface 22 v) 20 22 false).run Try.prog w = .ok v w := by kernel_rfl

@[go_sem] theorem as_float32_hit (v : Value) (w : World) : (Instr.typeAssert (.iface 58 v) 20 58 true).run Try.prog w = .ok (.tuple #[v, .bool true]) w := by kernel_rfl
@[go_sem] theorem as_float32_nil (w : World) : (Instr.typeAssert .nilIface 20 58 true).run Try.prog w = .ok (.tuple #[.float .f32 0, .bool false]) w := by kernel_rfl
theorem as_float32_two (w : World) : (do pure (Value.tuple #[← zeroValue 58, .bool false]) : Sem Value).run Try.prog w = .ok (.tuple #[.float .f32 0, .bool false]) w := by kernel_rfl
@[go_sem] theorem as_float32_miss (u : TypeId) (v : Value) (w : World) (h : u ≠ 58) : (Instr.typeAssert (.iface u v) 20 58 true).run Try.prog w = .ok (.tuple #[.float .f32 0, .bool false]) w := by
  have e : (Instr.typeAssert (.iface u v) 20 58 true).run Try.prog w = (if u = 58 then (pure (Value.tuple #[v, .bool true]) : Sem Value) else (do pure (Value.tuple #[← zeroValue 58, .bool false]))).run Try.prog w := by kernel_rfl
  rw [e, if_neg h]
  exact as_float32_two w
@[go_sem] theorem as_float32_bare (v : Value) (w : World) : (Instr.typeAssert (.iface 58 v) 20 58 false).run Try.prog w = .ok v w := by kernel_rfl

@[go_sem] theorem as_float64_hit (v : Value) (w : World) : (Instr.typeAssert (.iface 23 v) 20 23 true).run Try.prog w = .ok (.tuple #[v, .bool true]) w := by kernel_rfl
@[go_sem] theorem as_float64_nil (w : World) : (Instr.typeAssert .nilIface 20 23 true).run Try.prog w = .ok (.tuple #[.float .f64 0, .bool false]) w := by kernel_rfl
theorem as_float64_two (w : World) : (do pure (Value.tuple #[← zeroValue 23, .bool false]) : Sem Value).run Try.prog w = .ok (.tuple #[.float .f64 0, .bool false]) w := by kernel_rfl
@[go_sem] theorem as_float64_miss (u : TypeId) (v : Value) (w : World) (h : u ≠ 23) : (Instr.typeAssert (.iface u v) 20 23 true).run Try.prog w = .ok (.tuple #[.float .f64 0, .bool false]) w := by
  have e : (Instr.typeAssert (.iface u v) 20 23 true).run Try.prog w = (if u = 23 then (pure (Value.tuple #[v, .bool true]) : Sem Value) else (do pure (Value.tuple #[← zeroValue 23, .bool false]))).run Try.prog w := by kernel_rfl
  rw [e, if_neg h]
  exact as_float64_two w
@[go_sem] theorem as_float64_bare (v : Value) (w : World) : (Instr.typeAssert (.iface 23 v) 20 23 false).run Try.prog w = .ok v w := by kernel_rfl

@[go_sem] theorem as_string_hit (v : Value) (w : World) : (Instr.typeAssert (.iface 9 v) 20 9 true).run Try.prog w = .ok (.tuple #[v, .bool true]) w := by kernel_rfl
@[go_sem] theorem as_string_nil (w : World) : (Instr.typeAssert .nilIface 20 9 true).run Try.prog w = .ok (.tuple #[.string ⟨#[]⟩, .bool false]) w := by kernel_rfl
theorem as_string_two (w : World) : (do pure (Value.tuple #[← zeroValue 9, .bool false]) : Sem Value).run Try.prog w = .ok (.tuple #[.string ⟨#[]⟩, .bool false]) w := by kernel_rfl
@[go_sem] theorem as_string_miss (u : TypeId) (v : Value) (w : World) (h : u ≠ 9) : (Instr.typeAssert (.iface u v) 20 9 true).run Try.prog w = .ok (.tuple #[.string ⟨#[]⟩, .bool false]) w := by
  have e : (Instr.typeAssert (.iface u v) 20 9 true).run Try.prog w = (if u = 9 then (pure (Value.tuple #[v, .bool true]) : Sem Value) else (do pure (Value.tuple #[← zeroValue 9, .bool false]))).run Try.prog w := by kernel_rfl
  rw [e, if_neg h]
  exact as_string_two w
@[go_sem] theorem as_string_bare (v : Value) (w : World) : (Instr.typeAssert (.iface 9 v) 20 9 false).run Try.prog w = .ok v w := by kernel_rfl

@[go_sem] theorem as_suint8_hit (v : Value) (w : World) : (Instr.typeAssert (.iface 63 v) 20 63 true).run Try.prog w = .ok (.tuple #[v, .bool true]) w := by kernel_rfl
@[go_sem] theorem as_suint8_nil (w : World) : (Instr.typeAssert .nilIface 20 63 true).run Try.prog w = .ok (.tuple #[.slice none 0 0, .bool false]) w := by kernel_rfl
theorem as_suint8_two (w : World) : (do pure (Value.tuple #[← zeroValue 63, .bool false]) : Sem Value).run Try.prog w = .ok (.tuple #[.slice none 0 0, .bool false]) w := by kernel_rfl
@[go_sem] theorem as_suint8_miss (u : TypeId) (v : Value) (w : World) (h : u ≠ 63) : (Instr.typeAssert (.iface u v) 20 63 true).run Try.prog w = .ok (.tuple #[.slice none 0 0, .bool false]) w := by
  have e : (Instr.typeAssert (.iface u v) 20 63 true).run Try.prog w = (if u = 63 then (pure (Value.tuple #[v, .bool true]) : Sem Value) else (do pure (Value.tuple #[← zeroValue 63, .bool false]))).run Try.prog w := by kernel_rfl
  rw [e, if_neg h]
  exact as_suint8_two w
@[go_sem] theorem as_suint8_bare (v : Value) (w : World) : (Instr.typeAssert (.iface 63 v) 20 63 false).run Try.prog w = .ok v w := by kernel_rfl

@[go_sem] theorem as_idealInt_hit (v : Value) (w : World) : (Instr.typeAssert (.iface 73 v) 20 73 true).run Try.prog w = .ok (.tuple #[v, .bool true]) w := by kernel_rfl
@[go_sem] theorem as_idealInt_nil (w : World) : (Instr.typeAssert .nilIface 20 73 true).run Try.prog w = .ok (.tuple #[.int .i64 0, .bool false]) w := by kernel_rfl
theorem as_idealInt_two (w : World) : (do pure (Value.tuple #[← zeroValue 73, .bool false]) : Sem Value).run Try.prog w = .ok (.tuple #[.int .i64 0, .bool false]) w := by kernel_rfl
@[go_sem] theorem as_idealInt_miss (u : TypeId) (v : Value) (w : World) (h : u ≠ 73) : (Instr.typeAssert (.iface u v) 20 73 true).run Try.prog w = .ok (.tuple #[.int .i64 0, .bool false]) w := by
  have e : (Instr.typeAssert (.iface u v) 20 73 true).run Try.prog w = (if u = 73 then (pure (Value.tuple #[v, .bool true]) : Sem Value) else (do pure (Value.tuple #[← zeroValue 73, .bool false]))).run Try.prog w := by kernel_rfl
  rw [e, if_neg h]
  exact as_idealInt_two w
@[go_sem] theorem as_idealInt_bare (v : Value) (w : World) : (Instr.typeAssert (.iface 73 v) 20 73 false).run Try.prog w = .ok v w := by kernel_rfl

@[go_sem] theorem as_idealRune_hit (v : Value) (w : World) : (Instr.typeAssert (.iface 72 v) 20 72 true).run Try.prog w = .ok (.tuple #[v, .bool true]) w := by kernel_rfl
@[go_sem] theorem as_idealRune_nil (w : World) : (Instr.typeAssert .nilIface 20 72 true).run Try.prog w = .ok (.tuple #[.int .i32 0, .bool false]) w := by kernel_rfl
theorem as_idealRune_two (w : World) : (do pure (Value.tuple #[← zeroValue 72, .bool false]) : Sem Value).run Try.prog w = .ok (.tuple #[.int .i32 0, .bool false]) w := by kernel_rfl
@[go_sem] theorem as_idealRune_miss (u : TypeId) (v : Value) (w : World) (h : u ≠ 72) : (Instr.typeAssert (.iface u v) 20 72 true).run Try.prog w = .ok (.tuple #[.int .i32 0, .bool false]) w := by
  have e : (Instr.typeAssert (.iface u v) 20 72 true).run Try.prog w = (if u = 72 then (pure (Value.tuple #[v, .bool true]) : Sem Value) else (do pure (Value.tuple #[← zeroValue 72, .bool false]))).run Try.prog w := by kernel_rfl
  rw [e, if_neg h]
  exact as_idealRune_two w
@[go_sem] theorem as_idealRune_bare (v : Value) (w : World) : (Instr.typeAssert (.iface 72 v) 20 72 false).run Try.prog w = .ok v w := by kernel_rfl

@[go_sem] theorem as_idealUint_hit (v : Value) (w : World) : (Instr.typeAssert (.iface 71 v) 20 71 true).run Try.prog w = .ok (.tuple #[v, .bool true]) w := by kernel_rfl
@[go_sem] theorem as_idealUint_nil (w : World) : (Instr.typeAssert .nilIface 20 71 true).run Try.prog w = .ok (.tuple #[.int .u64 0, .bool false]) w := by kernel_rfl
theorem as_idealUint_two (w : World) : (do pure (Value.tuple #[← zeroValue 71, .bool false]) : Sem Value).run Try.prog w = .ok (.tuple #[.int .u64 0, .bool false]) w := by kernel_rfl
@[go_sem] theorem as_idealUint_miss (u : TypeId) (v : Value) (w : World) (h : u ≠ 71) : (Instr.typeAssert (.iface u v) 20 71 true).run Try.prog w = .ok (.tuple #[.int .u64 0, .bool false]) w := by
  have e : (Instr.typeAssert (.iface u v) 20 71 true).run Try.prog w = (if u = 71 then (pure (Value.tuple #[v, .bool true]) : Sem Value) else (do pure (Value.tuple #[← zeroValue 71, .bool false]))).run Try.prog w := by kernel_rfl
  rw [e, if_neg h]
  exact as_idealUint_two w
@[go_sem] theorem as_idealUint_bare (v : Value) (w : World) : (Instr.typeAssert (.iface 71 v) 20 71 false).run Try.prog w = .ok v w := by kernel_rfl

@[go_sem] theorem as_idealFloat_hit (v : Value) (w : World) : (Instr.typeAssert (.iface 74 v) 20 74 true).run Try.prog w = .ok (.tuple #[v, .bool true]) w := by kernel_rfl
@[go_sem] theorem as_idealFloat_nil (w : World) : (Instr.typeAssert .nilIface 20 74 true).run Try.prog w = .ok (.tuple #[.float .f64 0, .bool false]) w := by kernel_rfl
theorem as_idealFloat_two (w : World) : (do pure (Value.tuple #[← zeroValue 74, .bool false]) : Sem Value).run Try.prog w = .ok (.tuple #[.float .f64 0, .bool false]) w := by kernel_rfl
@[go_sem] theorem as_idealFloat_miss (u : TypeId) (v : Value) (w : World) (h : u ≠ 74) : (Instr.typeAssert (.iface u v) 20 74 true).run Try.prog w = .ok (.tuple #[.float .f64 0, .bool false]) w := by
  have e : (Instr.typeAssert (.iface u v) 20 74 true).run Try.prog w = (if u = 74 then (pure (Value.tuple #[v, .bool true]) : Sem Value) else (do pure (Value.tuple #[← zeroValue 74, .bool false]))).run Try.prog w := by kernel_rfl
  rw [e, if_neg h]
  exact as_idealFloat_two w
@[go_sem] theorem as_idealFloat_bare (v : Value) (w : World) : (Instr.typeAssert (.iface 74 v) 20 74 false).run Try.prog w = .ok v w := by kernel_rfl

@[go_sem] theorem as_int_hit (v : Value) (w : World) : (Instr.typeAssert (.iface 3 v) 20 3 true).run Try.prog w = .ok (.tuple #[v, .bool true]) w := by kernel_rfl
@[go_sem] theorem as_int_nil (w : World) : (Instr.typeAssert .nilIface 20 3 true).run Try.prog w = .ok (.tuple #[.int .i64 0, .bool false]) w := by kernel_rfl
theorem as_int_two (w : World) : (do pure (Value.tuple #[← zeroValue 3, .bool false]) : Sem Value).run Try.prog w = .ok (.tuple #[.int .i64 0, .bool false]) w := by kernel_rfl
@[go_sem] theorem as_int_miss (u : TypeId) (v : Value) (w : World) (h : u ≠ 3) : (Instr.typeAssert (.iface u v) 20 3 true).run Try.prog w = .ok (.tuple #[.int .i64 0, .bool false]) w := by
  have e : (Instr.typeAssert (.iface u v) 20 3 true).run Try.prog w = (if u = 3 then (pure (Value.tuple #[v, .bool true]) : Sem Value) else (do pure (Value.tuple #[← zeroValue 3, .bool false]))).run Try.prog w := by kernel_rfl
  rw [e, if_neg h]
  exact as_int_two w
@[go_sem] theorem as_int_bare (v : Value) (w : World) : (Instr.typeAssert (.iface 3 v) 20 3 false).run Try.prog w = .ok v w := by kernel_rfl

@[go_sem] theorem as_uint_hit (v : Value) (w : World) : (Instr.typeAssert (.iface 57 v) 20 57 true).run Try.prog w = .ok (.tuple #[v, .bool true]) w := by kernel_rfl
@[go_sem] theorem as_uint_nil (w : World) : (Instr.typeAssert .nilIface 20 57 true).run Try.prog w = .ok (.tuple #[.int .u64 0, .bool false]) w := by kernel_rfl
theorem as_uint_two (w : World) : (do pure (Value.tuple #[← zeroValue 57, .bool false]) : Sem Value).run Try.prog w = .ok (.tuple #[.int .u64 0, .bool false]) w := by kernel_rfl
@[go_sem] theorem as_uint_miss (u : TypeId) (v : Value) (w : World) (h : u ≠ 57) : (Instr.typeAssert (.iface u v) 20 57 true).run Try.prog w = .ok (.tuple #[.int .u64 0, .bool false]) w := by
  have e : (Instr.typeAssert (.iface u v) 20 57 true).run Try.prog w = (if u = 57 then (pure (Value.tuple #[v, .bool true]) : Sem Value) else (do pure (Value.tuple #[← zeroValue 57, .bool false]))).run Try.prog w := by kernel_rfl
  rw [e, if_neg h]
  exact as_uint_two w
@[go_sem] theorem as_uint_bare (v : Value) (w : World) : (Instr.typeAssert (.iface 57 v) 20 57 false).run Try.prog w = .ok v w := by kernel_rfl

end Go.Proofs.Ytiijcmdfbgoafaa
