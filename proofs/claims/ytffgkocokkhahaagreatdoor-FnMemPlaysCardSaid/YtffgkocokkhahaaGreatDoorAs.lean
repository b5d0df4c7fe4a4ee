/-
  What a type assertion with ok gives at the types of values. PRINTED BY wip/tpl/gen_as.py.
-/
import Derived.Test.YtffgkocokkhahaaGreatDoorBase
namespace Go.Proofs.YtffgkocokkhahaaGreatDoor
open Go.RowKit

@[go_sem] theorem as_bool_hit (v : Value) (w : World) : (Instr.typeAssert (.iface 4 v) 20 4 true).run Tryz.prog w = .ok (.tuple #[v, .bool true]) w := by kernel_rfl
@[go_sem] theorem as_bool_nil (w : World) : (Instr.typeAssert .nilIface 20 4 true).run Tryz.prog w = .ok (.tuple #[.bool false, .bool false]) w := by kernel_rfl
theorem as_bool_two (w : World) : (do pure (Value.tuple #[← zeroValue 4, .bool false]) : Sem Value).run Tryz.prog w = .ok (.tuple #[.bool false, .bool false]) w := by kernel_rfl
@[go_sem] theorem as_bool_miss (u : TypeId) (v : Value) (w : World) (h : u ≠ 4) : (Instr.typeAssert (.iface u v) 20 4 true).run Tryz.prog w = .ok (.tuple #[.bool false, .bool false]) w := by
  have e : (Instr.typeAssert (.iface u v) 20 4 true).run Tryz.prog w = (if u = 4 then (pure (Value.tuple #[v, .bool true]) : Sem Value) else (do pure (Value.tuple #[← zeroValue 4, .bool false]))).run Tryz.prog w := by kernel_rfl
  rw [e, if_neg h]
  exact as_bool_two w
@[go_sem] theorem as_bool_bare (v : Value) (w : World) : (Instr.typeAssert (.iface 4 v) 20 4 false).run Tryz.prog w = .ok v w := by kernel_rfl

@[go_sem] theorem as_int8_hit (v : Value) (w : World) : (Instr.typeAssert (.iface 185 v) 20 185 true).run Tryz.prog w = .ok (.tuple #[v, .bool true]) w := by kernel_rfl
@[go_sem] theorem as_int8_nil (w : World) : (Instr.typeAssert .nilIface 20 185 true).run Tryz.prog w = .ok (.tuple #[.int .i8 0, .bool false]) w := by kernel_rfl
theorem as_int8_two (w : World) : (do pure (Value.tuple #[← zeroValue 185, .bool false]) : Sem Value).run Tryz.prog w = .ok (.tuple #[.int .i8 0, .bool false]) w := by kernel_rfl
@[go_sem] theorem as_int8_miss (u : TypeId) (v : Value) (w : World) (h : u ≠ 185) : (Instr.typeAssert (.iface u v) 20 185 true).run Tryz.prog w = .ok (.tuple #[.int .i8 0, .bool false]) w := by
  have e : (Instr.typeAssert (.iface u v) 20 185 true).run Tryz.prog w = (if u = 185 then (pure (Value.tuple #[v, .bool true]) : Sem Value) else (do pure (Value.tuple #[← zeroValue 185, .bool false]))).run Tryz.prog w := by kernel_rfl
  rw [e, if_neg h]
  exact as_int8_two w
@[go_sem] theorem as_int8_bare (v : Value) (w : World) : (Instr.typeAssert (.iface 185 v) 20 185 false).run Tryz.prog w = .ok v w := by kernel_rfl

@[go_sem] theorem as_int16_hit (v : Value) (w : World) : (Instr.typeAssert (.iface 186 v) 20 186 true).run Tryz.prog w = .ok (.tuple #[v, .bool true]) w := by kernel_rfl
@[go_sem] theorem as_int16_nil (w : World) : (Instr.typeAssert .nilIface 20 186 true).run Tryz.prog w = .ok (.tuple #[.int .i16 0, .bool false]) w := by kernel_rfl
theorem as_int16_two (w : World) : (do pure (Value.tuple #[← zeroValue 186, .bool false]) : Sem Value).run Tryz.prog w = .ok (.tuple #[.int .i16 0, .bool false]) w := by kernel_rfl
@[go_sem] theorem as_int16_miss (u : TypeId) (v : Value) (w : World) (h : u ≠ 186) : (Instr.typeAssert (.iface u v) 20 186 true).run Tryz.prog w = .ok (.tuple #[.int .i16 0, .bool false]) w := by
  have e : (Instr.typeAssert (.iface u v) 20 186 true).run Tryz.prog w = (if u = 186 then (pure (Value.tuple #[v, .bool true]) : Sem Value) else (do pure (Value.tuple #[← zeroValue 186, .bool false]))).run Tryz.prog w := by kernel_rfl
  rw [e, if_neg h]
  exact as_int16_two w
@[go_sem] theorem as_int16_bare (v : Value) (w : World) : (Instr.typeAssert (.iface 186 v) 20 186 false).run Tryz.prog w = .ok v w := by kernel_rfl

@[go_sem] theorem as_int32_hit (v : Value) (w : World) : (Instr.typeAssert (.iface 21 v) 20 21 true).run Tryz.prog w = .ok (.tuple #[v, .bool true]) w := by kernel_rfl
@[go_sem] theorem as_int32_nil (w : World) : (Instr.typeAssert .nilIface 20 21 true).run Tryz.prog w = .ok (.tuple #[.int .i32 0, .bool false]) w := by kernel_rfl
theorem as_int32_two (w : World) : (do pure (Value.tuple #[← zeroValue 21, .bool false]) : Sem Value).run Tryz.prog w = .ok (.tuple #[.int .i32 0, .bool false]) w := by kernel_rfl
@[go_sem] theorem as_int32_miss (u : TypeId) (v : Value) (w : World) (h : u ≠ 21) : (Instr.typeAssert (.iface u v) 20 21 true).run Tryz.prog w = .ok (.tuple #[.int .i32 0, .bool false]) w := by
  have e : (Instr.typeAssert (.iface u v) 20 21 true).run Tryz.prog w = (if u = 21 then (pure (Value.tuple #[v, .bool true]) : Sem Value) else (do pure (Value.tuple #[← zeroValue 21, .bool false]))).run Tryz.prog w := by kernel_rfl
  rw [e, if_neg h]
  exact as_int32_two w
@[go_sem] theorem as_int32_bare (v : Value) (w : World) : (Instr.typeAssert (.iface 21 v) 20 21 false).run Tryz.prog w = .ok v w := by kernel_rfl

@[go_sem] theorem as_int64_hit (v : Value) (w : World) : (Instr.typeAssert (.iface 2 v) 20 2 true).run Tryz.prog w = .ok (.tuple #[v, .bool true]) w := by kernel_rfl
@[go_sem] theorem as_int64_nil (w : World) : (Instr.typeAssert .nilIface 20 2 true).run Tryz.prog w = .ok (.tuple #[.int .i64 0, .bool false]) w := by kernel_rfl
theorem as_int64_two (w : World) : (do pure (Value.tuple #[← zeroValue 2, .bool false]) : Sem Value).run Tryz.prog w = .ok (.tuple #[.int .i64 0, .bool false]) w := by kernel_rfl
@[go_sem] theorem as_int64_miss (u : TypeId) (v : Value) (w : World) (h : u ≠ 2) : (Instr.typeAssert (.iface u v) 20 2 true).run Tryz.prog w = .ok (.tuple #[.int .i64 0, .bool false]) w := by
  have e : (Instr.typeAssert (.iface u v) 20 2 true).run Tryz.prog w = (if u = 2 then (pure (Value.tuple #[v, .bool true]) : Sem Value) else (do pure (Value.tuple #[← zeroValue 2, .bool false]))).run Tryz.prog w := by kernel_rfl
  rw [e, if_neg h]
  exact as_int64_two w
@[go_sem] theorem as_int64_bare (v : Value) (w : World) : (Instr.typeAssert (.iface 2 v) 20 2 false).run Tryz.prog w = .ok v w := by kernel_rfl

@[go_sem] theorem as_uint8_hit (v : Value) (w : World) : (Instr.typeAssert (.iface 5 v) 20 5 true).run Tryz.prog w = .ok (.tuple #[v, .bool true]) w := by kernel_rfl
@[go_sem] theorem as_uint8_nil (w : World) : (Instr.typeAssert .nilIface 20 5 true).run Tryz.prog w = .ok (.tuple #[.int .u8 0, .bool false]) w := by kernel_rfl
theorem as_uint8_two (w : World) : (do pure (Value.tuple #[← zeroValue 5, .bool false]) : Sem Value).run Tryz.prog w = .ok (.tuple #[.int .u8 0, .bool false]) w := by kernel_rfl
@[go_sem] theorem as_uint8_miss (u : TypeId) (v : Value) (w : World) (h : u ≠ 5) : (Instr.typeAssert (.iface u v) 20 5 true).run Tryz.prog w = .ok (.tuple #[.int .u8 0, .bool false]) w := by
  have e : (Instr.typeAssert (.iface u v) 20 5 true).run Tryz.prog w = (if u = 5 then (pure (Value.tuple #[v, .bool true]) : Sem Value) else (do pure (Value.tuple #[← zeroValue 5, .bool false]))).run Tryz.prog w := by kernel_rfl
  rw [e, if_neg h]
  exact as_uint8_two w
@[go_sem] theorem as_uint8_bare (v : Value) (w : World) : (Instr.typeAssert (.iface 5 v) 20 5 false).run Tryz.prog w = .ok v w := by kernel_rfl

@[go_sem] theorem as_uint16_hit (v : Value) (w : World) : (Instr.typeAssert (.iface 187 v) 20 187 true).run Tryz.prog w = .ok (.tuple #[v, .bool true]) w := by kernel_rfl
@[go_sem] theorem as_uint16_nil (w : World) : (Instr.typeAssert .nilIface 20 187 true).run Tryz.prog w = .ok (.tuple #[.int .u16 0, .bool false]) w := by kernel_rfl
theorem as_uint16_two (w : World) : (do pure (Value.tuple #[← zeroValue 187, .bool false]) : Sem Value).run Tryz.prog w = .ok (.tuple #[.int .u16 0, .bool false]) w := by kernel_rfl
@[go_sem] theorem as_uint16_miss (u : TypeId) (v : Value) (w : World) (h : u ≠ 187) : (Instr.typeAssert (.iface u v) 20 187 true).run Tryz.prog w = .ok (.tuple #[.int .u16 0, .bool false]) w := by
  have e : (Instr.typeAssert (.iface u v) 20 187 true).run Tryz.prog w = (if u = 187 then (pure (Value.tuple #[v, .bool true]) : Sem Value) else (do pure (Value.tuple #[← zeroValue 187, .bool false]))).run Tryz.prog w := by kernel_rfl
  rw [e, if_neg h]
  exact as_uint16_two w
@[go_sem] theorem as_uint16_bare (v : Value) (w : World) : (Instr.typeAssert (.iface 187 v) 20 187 false).run Tryz.prog w = .ok v w := by kernel_rfl

@[go_sem] theorem as_uint32_hit (v : Value) (w : World) : (Instr.typeAssert (.iface 114 v) 20 114 true).run Tryz.prog w = .ok (.tuple #[v, .bool true]) w := by kernel_rfl
@[go_sem] theorem as_uint32_nil (w : World) : (Instr.typeAssert .nilIface 20 114 true).run Tryz.prog w = .ok (.tuple #[.int .u32 0, .bool false]) w := by kernel_rfl
theorem as_uint32_two (w : World) : (do pure (Value.tuple #[← zeroValue 114, .bool false]) : Sem Value).run Tryz.prog w = .ok (.tuple #[.int .u32 0, .bool false]) w := by kernel_rfl
@[go_sem] theorem as_uint32_miss (u : TypeId) (v : Value) (w : World) (h : u ≠ 114) : (Instr.typeAssert (.iface u v) 20 114 true).run Tryz.prog w = .ok (.tuple #[.int .u32 0, .bool false]) w := by
  have e : (Instr.typeAssert (.iface u v) 20 114 true).run Tryz.prog w = (if u = 114 then (pure (Value.tuple #[v, .bool true]) : Sem Value) else (do pure (Value.tuple #[← zeroValue 114, .bool false]))).run Tryz.prog w := by kernel_rfl
  rw [e, if_neg h]
  exact as_uint32_two w
@[go_sem] theorem as_uint32_bare (v : Value) (w : World) : (Instr.typeAssert (.iface 114 v) 20 114 false).run Tryz.prog w = .ok v w := by kernel_rfl

@[go_sem] theorem as_uint64_hit (v : Value) (w : World) : (Instr.typeAssert (.iface 54 v) 20 54 true).run Tryz.prog w = .ok (.tuple #[v, .bool true]) w := by kernel_rfl
@[go_sem] theorem as_uint64_nil (w : World) : (Instr.typeAssert .nilIface 20 54 true).run Tryz.prog w = .ok (.tuple #[.int .u64 0, .bool false]) w := by kernel_rfl
theorem as_uint64_two (w : World) : (do pure (Value.tuple #[← zeroValue 54, .bool false]) : Sem Value).run Tryz.prog w = .ok (.tuple #[.int .u64 0, .bool false]) w := by kernel_rfl
@[go_sem] theorem as_uint64_miss (u : TypeId) (v : Value) (w : World) (h : u ≠ 54) : (Instr.typeAssert (.iface u v) 20 54 true).run Tryz.prog w = .ok (.tuple #[.int .u64 0, .bool false]) w := by
  have e : (Instr.typeAssert (.iface u v) 20 54 true).run Tryz.prog w = (if u = 54 then (pure (Value.tuple #[v, .bool true]) : Sem Value) else (do pure (Value.tuple #[← zeroValue 54, .bool false]))).run Tryz.prog w := by kernel_rfl
  rw [e, if_neg h]
  exact as_uint64_two w
@[go_sem] theorem as_uint64_bare (v : Value) (w : World) : (Instr.typeAssert (.iface 54 v) 20 54 false).run Tryz.prog w = .ok v w := by kernel_rfl

@[go_sem] theorem as_float32_hit (v : Value) (w : World) : (Instr.typeAssert (.iface 161 v) 20 161 true).run Tryz.prog w = .ok (.tuple #[v, .bool true]) w := by kernel_rfl
@[go_sem] theorem as_float32_nil (w : World) : (Instr.typeAssert .nilIface 20 161 true).run Tryz.prog w = .ok (.tuple #[.float .f32 0, .bool false]) w := by kernel_rfl
theorem as_float32_two (w : World) : (do pure (Value.tuple #[← zeroValue 161, .bool false]) : Sem Value).run Tryz.prog w = .ok (.tuple #[.float .f32 0, .bool false]) w := by kernel_rfl
@[go_sem] theorem as_float32_miss (u : TypeId) (v : Value) (w : World) (h : u ≠ 161) : (Instr.typeAssert (.iface u v) 20 161 true).run Tryz.prog w = .ok (.tuple #[.float .f32 0, .bool false]) w := by
  have e : (Instr.typeAssert (.iface u v) 20 161 true).run Tryz.prog w = (if u = 161 then (pure (Value.tuple #[v, .bool true]) : Sem Value) else (do pure (Value.tuple #[← zeroValue 161, .bool false]))).run Tryz.prog w := by kernel_rfl
  rw [e, if_neg h]
  exact as_float32_two w
@[go_sem] theorem as_float32_bare (v : Value) (w : World) : (Instr.typeAssert (.iface 161 v) 20 161 false).run Tryz.prog w = .ok v w := by kernel_rfl

@[go_sem] theorem as_float64_hit (v : Value) (w : World) : (Instr.typeAssert (.iface 55 v) 20 55 true).run Tryz.prog w = .ok (.tuple #[v, .bool true]) w := by kernel_rfl
@[go_sem] theorem as_float64_nil (w : World) : (Instr.typeAssert .nilIface 20 55 true).run Tryz.prog w = .ok (.tuple #[.float .f64 0, .bool false]) w := by kernel_rfl
theorem as_float64_two (w : World) : (do pure (Value.tuple #[← zeroValue 55, .bool false]) : Sem Value).run Tryz.prog w = .ok (.tuple #[.float .f64 0, .bool false]) w := by kernel_rfl
@[go_sem] theorem as_float64_miss (u : TypeId) (v : Value) (w : World) (h : u ≠ 55) : (Instr.typeAssert (.iface u v) 20 55 true).run Tryz.prog w = .ok (.tuple #[.float .f64 0, .bool false]) w := by
  have e : (Instr.typeAssert (.iface u v) 20 55 true).run Tryz.prog w = (if u = 55 then (pure (Value.tuple #[v, .bool true]) : Sem Value) else (do pure (Value.tuple #[← zeroValue 55, .bool false]))).run Tryz.prog w := by kernel_rfl
  rw [e, if_neg h]
  exact as_float64_two w
@[go_sem] theorem as_float64_bare (v : Value) (w : World) : (Instr.typeAssert (.iface 55 v) 20 55 false).run Tryz.prog w = .ok v w := by kernel_rfl

@[go_sem] theorem as_string_hit (v : Value) (w : World) : (Instr.typeAssert (.iface 9 v) 20 9 true).run Tryz.prog w = .ok (.tuple #[v, .bool true]) w := by kernel_rfl
@[go_sem] theorem as_string_nil (w : World) : (Instr.typeAssert .nilIface 20 9 true).run Tryz.prog w = .ok (.tuple #[.string ⟨#[]⟩, .bool false]) w := by kernel_rfl
theorem as_string_two (w : World) : (do pure (Value.tuple #[← zeroValue 9, .bool false]) : Sem Value).run Tryz.prog w = .ok (.tuple #[.string ⟨#[]⟩, .bool false]) w := by kernel_rfl
@[go_sem] theorem as_string_miss (u : TypeId) (v : Value) (w : World) (h : u ≠ 9) : (Instr.typeAssert (.iface u v) 20 9 true).run Tryz.prog w = .ok (.tuple #[.string ⟨#[]⟩, .bool false]) w := by
  have e : (Instr.typeAssert (.iface u v) 20 9 true).run Tryz.prog w = (if u = 9 then (pure (Value.tuple #[v, .bool true]) : Sem Value) else (do pure (Value.tuple #[← zeroValue 9, .bool false]))).run Tryz.prog w := by kernel_rfl
  rw [e, if_neg h]
  exact as_string_two w
@[go_sem] theorem as_string_bare (v : Value) (w : World) : (Instr.typeAssert (.iface 9 v) 20 9 false).run Tryz.prog w = .ok v w := by kernel_rfl

@[go_sem] theorem as_suint8_hit (v : Value) (w : World) : (Instr.typeAssert (.iface 188 v) 20 188 true).run Tryz.prog w = .ok (.tuple #[v, .bool true]) w := by kernel_rfl
@[go_sem] theorem as_suint8_nil (w : World) : (Instr.typeAssert .nilIface 20 188 true).run Tryz.prog w = .ok (.tuple #[.slice none 0 0, .bool false]) w := by kernel_rfl
theorem as_suint8_two (w : World) : (do pure (Value.tuple #[← zeroValue 188, .bool false]) : Sem Value).run Tryz.prog w = .ok (.tuple #[.slice none 0 0, .bool false]) w := by kernel_rfl
@[go_sem] theorem as_suint8_miss (u : TypeId) (v : Value) (w : World) (h : u ≠ 188) : (Instr.typeAssert (.iface u v) 20 188 true).run Tryz.prog w = .ok (.tuple #[.slice none 0 0, .bool false]) w := by
  have e : (Instr.typeAssert (.iface u v) 20 188 true).run Tryz.prog w = (if u = 188 then (pure (Value.tuple #[v, .bool true]) : Sem Value) else (do pure (Value.tuple #[← zeroValue 188, .bool false]))).run Tryz.prog w := by kernel_rfl
  rw [e, if_neg h]
  exact as_suint8_two w
@[go_sem] theorem as_suint8_bare (v : Value) (w : World) : (Instr.typeAssert (.iface 188 v) 20 188 false).run Tryz.prog w = .ok v w := by kernel_rfl

@[go_sem] theorem as_idealInt_hit (v : Value) (w : World) : (Instr.typeAssert (.iface 198 v) 20 198 true).run Tryz.prog w = .ok (.tuple #[v, .bool true]) w := by kernel_rfl
@[go_sem] theorem as_idealInt_nil (w : World) : (Instr.typeAssert .nilIface 20 198 true).run Tryz.prog w = .ok (.tuple #[.int .i64 0, .bool false]) w := by kernel_rfl
theorem as_idealInt_two (w : World) : (do pure (Value.tuple #[← zeroValue 198, .bool false]) : Sem Value).run Tryz.prog w = .ok (.tuple #[.int .i64 0, .bool false]) w := by kernel_rfl
@[go_sem] theorem as_idealInt_miss (u : TypeId) (v : Value) (w : World) (h : u ≠ 198) : (Instr.typeAssert (.iface u v) 20 198 true).run Tryz.prog w = .ok (.tuple #[.int .i64 0, .bool false]) w := by
  have e : (Instr.typeAssert (.iface u v) 20 198 true).run Tryz.prog w = (if u = 198 then (pure (Value.tuple #[v, .bool true]) : Sem Value) else (do pure (Value.tuple #[← zeroValue 198, .bool false]))).run Tryz.prog w := by kernel_rfl
  rw [e, if_neg h]
  exact as_idealInt_two w
@[go_sem] theorem as_idealInt_bare (v : Value) (w : World) : (Instr.typeAssert (.iface 198 v) 20 198 false).run Tryz.prog w = .ok v w := by kernel_rfl

@[go_sem] theorem as_idealRune_hit (v : Value) (w : World) : (Instr.typeAssert (.iface 199 v) 20 199 true).run Tryz.prog w = .ok (.tuple #[v, .bool true]) w := by kernel_rfl
@[go_sem] theorem as_idealRune_nil (w : World) : (Instr.typeAssert .nilIface 20 199 true).run Tryz.prog w = .ok (.tuple #[.int .i32 0, .bool false]) w := by kernel_rfl
theorem as_idealRune_two (w : World) : (do pure (Value.tuple #[← zeroValue 199, .bool false]) : Sem Value).run Tryz.prog w = .ok (.tuple #[.int .i32 0, .bool false]) w := by kernel_rfl
@[go_sem] theorem as_idealRune_miss (u : TypeId) (v : Value) (w : World) (h : u ≠ 199) : (Instr.typeAssert (.iface u v) 20 199 true).run Tryz.prog w = .ok (.tuple #[.int .i32 0, .bool false]) w := by
  have e : (Instr.typeAssert (.iface u v) 20 199 true).run Tryz.prog w = (if u = 199 then (pure (Value.tuple #[v, .bool true]) : Sem Value) else (do pure (Value.tuple #[← zeroValue 199, .bool false]))).run Tryz.prog w := by kernel_rfl
  rw [e, if_neg h]
  exact as_idealRune_two w
@[go_sem] theorem as_idealRune_bare (v : Value) (w : World) : (Instr.typeAssert (.iface 199 v) 20 199 false).run Tryz.prog w = .ok v w := by kernel_rfl

@[go_sem] theorem as_idealUint_hit (v : Value) (w : World) : (Instr.typeAssert (.iface 200 v) 20 200 true).run Tryz.prog w = .ok (.tuple #[v, .bool true]) w := by kernel_rfl
@[go_sem] theorem as_idealUint_nil (w : World) : (Instr.typeAssert .nilIface 20 200 true).run Tryz.prog w = .ok (.tuple #[.int .u64 0, .bool false]) w := by kernel_rfl
theorem as_idealUint_two (w : World) : (do pure (Value.tuple #[← zeroValue 200, .bool false]) : Sem Value).run Tryz.prog w = .ok (.tuple #[.int .u64 0, .bool false]) w := by kernel_rfl
@[go_sem] theorem as_idealUint_miss (u : TypeId) (v : Value) (w : World) (h : u ≠ 200) : (Instr.typeAssert (.iface u v) 20 200 true).run Tryz.prog w = .ok (.tuple #[.int .u64 0, .bool false]) w := by
  have e : (Instr.typeAssert (.iface u v) 20 200 true).run Tryz.prog w = (if u = 200 then (pure (Value.tuple #[v, .bool true]) : Sem Value) else (do pure (Value.tuple #[← zeroValue 200, .bool false]))).run Tryz.prog w := by kernel_rfl
  rw [e, if_neg h]
  exact as_idealUint_two w
@[go_sem] theorem as_idealUint_bare (v : Value) (w : World) : (Instr.typeAssert (.iface 200 v) 20 200 false).run Tryz.prog w = .ok v w := by kernel_rfl

@[go_sem] theorem as_idealFloat_hit (v : Value) (w : World) : (Instr.typeAssert (.iface 197 v) 20 197 true).run Tryz.prog w = .ok (.tuple #[v, .bool true]) w := by kernel_rfl
@[go_sem] theorem as_idealFloat_nil (w : World) : (Instr.typeAssert .nilIface 20 197 true).run Tryz.prog w = .ok (.tuple #[.float .f64 0, .bool false]) w := by kernel_rfl
theorem as_idealFloat_two (w : World) : (do pure (Value.tuple #[← zeroValue 197, .bool false]) : Sem Value).run Tryz.prog w = .ok (.tuple #[.float .f64 0, .bool false]) w := by kernel_rfl
@[go_sem] theorem as_idealFloat_miss (u : TypeId) (v : Value) (w : World) (h : u ≠ 197) : (Instr.typeAssert (.iface u v) 20 197 true).run Tryz.prog w = .ok (.tuple #[.float .f64 0, .bool false]) w := by
  have e : (Instr.typeAssert (.iface u v) 20 197 true).run Tryz.prog w = (if u = 197 then (pure (Value.tuple #[v, .bool true]) : Sem Value) else (do pure (Value.tuple #[← zeroValue 197, .bool false]))).run Tryz.prog w := by kernel_rfl
  rw [e, if_neg h]
  exact as_idealFloat_two w
@[go_sem] theorem as_idealFloat_bare (v : Value) (w : World) : (Instr.typeAssert (.iface 197 v) 20 197 false).run Tryz.prog w = .ok v w := by kernel_rfl

@[go_sem] theorem as_int_hit (v : Value) (w : World) : (Instr.typeAssert (.iface 3 v) 20 3 true).run Tryz.prog w = .ok (.tuple #[v, .bool true]) w := by kernel_rfl
@[go_sem] theorem as_int_nil (w : World) : (Instr.typeAssert .nilIface 20 3 true).run Tryz.prog w = .ok (.tuple #[.int .i64 0, .bool false]) w := by kernel_rfl
theorem as_int_two (w : World) : (do pure (Value.tuple #[← zeroValue 3, .bool false]) : Sem Value).run Tryz.prog w = .ok (.tuple #[.int .i64 0, .bool false]) w := by kernel_rfl
@[go_sem] theorem as_int_miss (u : TypeId) (v : Value) (w : World) (h : u ≠ 3) : (Instr.typeAssert (.iface u v) 20 3 true).run Tryz.prog w = .ok (.tuple #[.int .i64 0, .bool false]) w := by
  have e : (Instr.typeAssert (.iface u v) 20 3 true).run Tryz.prog w = (if u = 3 then (pure (Value.tuple #[v, .bool true]) : Sem Value) else (do pure (Value.tuple #[← zeroValue 3, .bool false]))).run Tryz.prog w := by kernel_rfl
  rw [e, if_neg h]
  exact as_int_two w
@[go_sem] theorem as_int_bare (v : Value) (w : World) : (Instr.typeAssert (.iface 3 v) 20 3 false).run Tryz.prog w = .ok v w := by kernel_rfl

@[go_sem] theorem as_uint_hit (v : Value) (w : World) : (Instr.typeAssert (.iface 160 v) 20 160 true).run Tryz.prog w = .ok (.tuple #[v, .bool true]) w := by kernel_rfl
@[go_sem] theorem as_uint_nil (w : World) : (Instr.typeAssert .nilIface 20 160 true).run Tryz.prog w = .ok (.tuple #[.int .u64 0, .bool false]) w := by kernel_rfl
theorem as_uint_two (w : World) : (do pure (Value.tuple #[← zeroValue 160, .bool false]) : Sem Value).run Tryz.prog w = .ok (.tuple #[.int .u64 0, .bool false]) w := by kernel_rfl
@[go_sem] theorem as_uint_miss (u : TypeId) (v : Value) (w : World) (h : u ≠ 160) : (Instr.typeAssert (.iface u v) 20 160 true).run Tryz.prog w = .ok (.tuple #[.int .u64 0, .bool false]) w := by
  have e : (Instr.typeAssert (.iface u v) 20 160 true).run Tryz.prog w = (if u = 160 then (pure (Value.tuple #[v, .bool true]) : Sem Value) else (do pure (Value.tuple #[← zeroValue 160, .bool false]))).run Tryz.prog w := by kernel_rfl
  rw [e, if_neg h]
  exact as_uint_two w
@[go_sem] theorem as_uint_bare (v : Value) (w : World) : (Instr.typeAssert (.iface 160 v) 20 160 false).run Tryz.prog w = .ok v w := by kernel_rfl

end Go.Proofs.YtffgkocokkhahaaGreatDoor
