/-
  What a type assertion with ok gives at the types of values. PRINTED BY wip/tpl/gen_as.py.
-/
import Derived.Test.YtiijcmdfbgoafaaDoorBase
namespace Go.Proofs.YtiijcmdfbgoafaaDoor
open Go.RowKit

@[go_sem] theorem as_bool_hit (v : Value) (w : World) : (Instr.typeAssert (.iface 4 v) 20 4 true).run Tryd.prog w = .ok (.tuple #[v, .bool true]) w := by kernel_rfl
@[go_sem] theorem as_bool_nil (w : World) : (Instr.typeAssert .nilIface 20 4 true).run Tryd.prog w = .ok (.tuple #[.bool false, .bool false]) w := by kernel_rfl
theorem as_bool_two (w : World) : (do pure (Value.tuple #[← zeroValue 4, .bool false]) : Sem Value).run Tryd.prog w = .ok (.tuple #[.bool false, .bool false]) w := by kernel_rfl
@[go_sem] theorem as_bool_miss (u : TypeId) (v : Value) (w : World) (h : u ≠ 4) : (Instr.typeAssert (.iface u v) 20 4 true).run Tryd.prog w = .ok (.tuple #[.bool false, .bool false]) w := by
  have e : (Instr.typeAssert (.iface u v) 20 4 true).run Tryd.prog w = (if u = 4 then (pure (Value.tuple #[v, .bool true]) : Sem Value) else (do pure (Value.tuple #[← zeroValue 4, .bool false]))).run Tryd.prog w := by kernel_rfl
  rw [e, if_neg h]
  exact as_bool_two w
@[go_sem] theorem as_bool_bare (v : Value) (w : World) : (Instr.typeAssert (.iface 4 v) 20 4 false).run Tryd.prog w = .ok v w := by kernel_rfl

@[go_sem] theorem as_int8_hit (v : Value) (w : World) : (Instr.typeAssert (.iface 74 v) 20 74 true).run Tryd.prog w = .ok (.tuple #[v, .bool true]) w := by kernel_rfl
@[go_sem] theorem as_int8_nil (w : World) : (Instr.typeAssert .nilIface 20 74 true).run Tryd.prog w = .ok (.tuple #[.int .i8 0, .bool false]) w := by kernel_rfl
theorem as_int8_two (w : World) : (do pure (Value.tuple #[← zeroValue 74, .bool false]) : Sem Value).run Tryd.prog w = .ok (.tuple #[.int .i8 0, .bool false]) w := by kernel_rfl
@[go_sem] theorem as_int8_miss (u : TypeId) (v : Value) (w : World) (h : u ≠ 74) : (Instr.typeAssert (.iface u v) 20 74 true).run Tryd.prog w = .ok (.tuple #[.int .i8 0, .bool false]) w := by
  have e : (Instr.typeAssert (.iface u v) 20 74 true).run Tryd.prog w = (if u = 74 then (pure (Value.tuple #[v, .bool true]) : Sem Value) else (do pure (Value.tuple #[← zeroValue 74, .bool false]))).run Tryd.prog w := by kernel_rfl
  rw [e, if_neg h]
  exact as_int8_two w
@[go_sem] theorem as_int8_bare (v : Value) (w : World) : (Instr.typeAssert (.iface 74 v) 20 74 false).run Tryd.prog w = .ok v w := by kernel_rfl

@[go_sem] theorem as_int16_hit (v : Value) (w : World) : (Instr.typeAssert (.iface 75 v) 20 75 true).run Tryd.prog w = .ok (.tuple #[v, .bool true]) w := by kernel_rfl
@[go_sem] theorem as_int16_nil (w : World) : (Instr.typeAssert .nilIface 20 75 true).run Tryd.prog w = .ok (.tuple #[.int .i16 0, .bool false]) w := by kernel_rfl
theorem as_int16_two (w : World) : (do pure (Value.tuple #[← zeroValue 75, .bool false]) : Sem Value).run Tryd.prog w = .ok (.tuple #[.int .i16 0, .bool false]) w := by kernel_rfl
@[go_sem] theorem as_int16_miss (u : TypeId) (v : Value) (w : World) (h : u ≠ 75) : (Instr.typeAssert (.iface u v) 20 75 true).run Tryd.prog w = .ok (.tuple #[.int .i16 0, .bool false]) w := by
  have e : (Instr.typeAssert (.iface u v) 20 75 true).run Tryd.prog w = (if u = 75 then (pure (Value.tuple #[v, .bool true]) : Sem Value) else (do pure (Value.tuple #[← zeroValue 75, .bool false]))).run Tryd.prog w := by kernel_rfl
  rw [e, if_neg h]
  exact as_int16_two w
@[go_sem] theorem as_int16_bare (v : Value) (w : World) : (Instr.typeAssert (.iface 75 v) 20 75 false).run Tryd.prog w = .ok v w := by kernel_rfl

@[go_sem] theorem as_int32_hit (v : Value) (w : World) : (Instr.typeAssert (.iface 21 v) 20 21 true).run Tryd.prog w = .ok (.tuple #[v, .bool true]) w := by kernel_rfl
@[go_sem] theorem as_int32_nil (w : World) : (Instr.typeAssert .nilIface 20 21 true).run Tryd.prog w = .ok (.tuple #[.int .i32 0, .bool false]) w := by kernel_rfl
theorem as_int32_two (w : World) : (do pure (Value.tuple #[← zeroValue 21, .bool false]) : Sem Value).run Tryd.prog w = .ok (.tuple #[.int .i32 0, .bool false]) w := by kernel_rfl
@[go_sem] theorem as_int32_miss (u : TypeId) (v : Value) (w : World) (h : u ≠ 21) : (Instr.typeAssert (.iface u v) 20 21 true).run Tryd.prog w = .ok (.tuple #[.int .i32 0, .bool false]) w := by
  have e : (Instr.typeAssert (.iface u v) 20 21 true).run Tryd.prog w = (if u = 21 then (pure (Value.tuple #[v, .bool true]) : Sem Value) else (do pure (Value.tuple #[← zeroValue 21, .bool false]))).run Tryd.prog w := by kernel_rfl
  rw [e, if_neg h]
  exact as_int32_two w
@[go_sem] theorem as_int32_bare (v : Value) (w : World) : (Instr.typeAssert (.iface 21 v) 20 21 false).run Tryd.prog w = .ok v w := by kernel_rfl

@[go_sem] theorem as_int64_hit (v : Value) (w : World) : (Instr.typeAssert (.iface 2 v) 20 2 true).run Tryd.prog w = .ok (.tuple #[v, .bool true]) w := by kernel_rfl
@[go_sem] theorem as_int64_nil (w : World) : (Instr.typeAssert .nilIface 20 2 true).run Tryd.prog w = .ok (.tuple #[.int .i64 0, .bool false]) w := by kernel_rfl
theorem as_int64_two (w : World) : (do pure (Value.tuple #[← zeroValue 2, .bool false]) : Sem Value).run Tryd.prog w = .ok (.tuple #[.int .i64 0, .bool false]) w := by kernel_rfl
@[go_sem] theorem as_int64_miss (u : TypeId) (v : Value) (w : World) (h : u ≠ 2) : (Instr.typeAssert (.iface u v) 20 2 true).run Tryd.prog w = .ok (.tuple #[.int .i64 0, .bool false]) w := by
  have e : (Instr.typeAssert (.iface u v) 20 2 true).run Tryd.prog w = (if u = 2 then (pure (Value.tuple #[v, .bool true]) : Sem Value) else (do pure (Value.tuple #[← zeroValue 2, .bool false]))).run Tryd.prog w := by kernel_rfl
  rw [e, if_neg h]
  exact as_int64_two w
@[go_sem] theorem as_int64_bare (v : Value) (w : World) : (Instr.typeAssert (.iface 2 v) 20 2 false).run Tryd.prog w = .ok v w := by kernel_rfl

@[go_sem] theorem as_uint8_hit (v : Value) (w : World) : (Instr.typeAssert (.iface 5 v) 20 5 true).run Tryd.prog w = .ok (.tuple #[v, .bool true]) w := by kernel_rfl
@[go_sem] theorem as_uint8_nil (w : World) : (Instr.typeAssert .nilIface 20 5 true).run Tryd.prog w = .ok (.tuple #[.int .u8 0, .bool false]) w := by kernel_rfl
theorem as_uint8_two (w : World) : (do pure (Value.tuple #[← zeroValue 5, .bool false]) : Sem Value).run Tryd.prog w = .ok (.tuple #[.int .u8 0, .bool false]) w := by kernel_rfl
@[go_sem] theorem as_uint8_miss (u : TypeId) (v : Value) (w : World) (h : u ≠ 5) : (Instr.typeAssert (.iface u v) 20 5 true).run Tryd.prog w = .ok (.tuple #[.int .u8 0, .bool false]) w := by
  have e : (Instr.typeAssert (.iface u v) 20 5 true).run Tryd.prog w = (if u = 5 then (pure (Value.tuple #[v, .bool true]) : Sem Value) else (do pure (Value.tuple #[← zeroValue 5, .bool false]))).run Tryd.prog w := by kernel_rfl
  rw [e, if_neg h]
  exact as_uint8_two w
@[go_sem] theorem as_uint8_bare (v : Value) (w : World) : (Instr.typeAssert (.iface 5 v) 20 5 false).run Tryd.prog w = .ok v w := by kernel_rfl

@[go_sem] theorem as_uint16_hit (v : Value) (w : World) : (Instr.typeAssert (.iface 76 v) 20 76 true).run Tryd.prog w = .ok (.tuple #[v, .bool true]) w := by kernel_rfl
@[go_sem] theorem as_uint16_nil (w : World) : (Instr.typeAssert .nilIface 20 76 true).run Tryd.prog w = .ok (.tuple #[.int .u16 0, .bool false]) w := by kernel_rfl
theorem as_uint16_two (w : World) : (do pure (Value.tuple #[← zeroValue 76, .bool false]) : Sem Value).run Tryd.prog w = .ok (.tuple #[.int .u16 0, .bool false]) w := by kernel_rfl
@[go_sem] theorem as_uint16_miss (u : TypeId) (v : Value) (w : World) (h : u ≠ 76) : (Instr.typeAssert (.iface u v) 20 76 true).run Tryd.prog w = .ok (.tuple #[.int .u16 0, .bool false]) w := by
  have e : (Instr.typeAssert (.iface u v) 20 76 true).run Tryd.prog w = (if u = 76 then (pure (Value.tuple #[v, .bool true]) : Sem Value) else (do pure (Value.tuple #[← zeroValue 76, .bool false]))).run Tryd.prog w := by kernel_rfl
  rw [e, if_neg h]
  exact as_uint16_two w
@[go_sem] theorem as_uint16_bare (v : Value) (w : World) : (Instr.typeAssert (.iface 76 v) 20 76 false).run Tryd.prog w = .ok v w := by kernel_rfl

@[go_sem] theorem as_uint32_hit (v : Value) (w : World) : (Instr.typeAssert (.iface 77 v) 20 77 true).run Tryd.prog w = .ok (.tuple #[v, .bool true]) w := by kernel_rfl
@[go_sem] theorem as_uint32_nil (w : World) : (Instr.typeAssert .nilIface 20 77 true).run Tryd.prog w = .ok (.tuple #[.int .u32 0, .bool false]) w := by kernel_rfl
theorem as_uint32_two (w : World) : (do pure (Value.tuple #[← zeroValue 77, .bool false]) : Sem Value).run Tryd.prog w = .ok (.tuple #[.int .u32 0, .bool false]) w := by kernel_rfl
@[go_sem] theorem as_uint32_miss (u : TypeId) (v : Value) (w : World) (h : u ≠ 77) : (Instr.typeAssert (.iface u v) 20 77 true).run Tryd.prog w = .ok (.tuple #[.int .u32 0, .bool false]) w := by
  have e : (Instr.typeAssert (.iface u v) 20 77 true).run Tryd.prog w = (if u = 77 then (pure (Value.tuple #[v, .bool true]) : Sem Value) else (do pure (Value.tuple #[← zeroValue 77, .bool false]))).run Tryd.prog w := by kernel_rfl
  rw [e, if_neg h]
  exact as_uint32_two w
@[go_sem] theorem as_uint32_bare (v : Value) (w : World) : (Instr.typeAssert (.iface 77 v) 20 77 false).run Tryd.prog w = .ok v w := by kernel_rfl

@[go_sem] theorem as_uint64_hit (v : Value) (w : World) : (Instr.typeAssert (.iface 27 v) 20 27 true).run Tryd.prog w = .ok (.tuple #[v, .bool true]) w := by kernel_rfl
@[go_sem] theorem as_uint64_nil (w : World) : (Instr.typeAssert .nilIface 20 27 true).run Tryd.prog w = .ok (.tuple #[.int .u64 0, .bool false]) w := by kernel_rfl
theorem as_uint64_two (w : World) : (do pure (Value.tuple #[← zeroValue 27, .bool false]) : Sem Value).run Tryd.prog w = .ok (.tuple #[.int .u64 0, .bool false]) w := by kernel_rfl
@[go_sem] theorem as_uint64_miss (u : TypeId) (v : Value) (w : World) (h : u ≠ 27) : (Instr.typeAssert (.iface u v) 20 27 true).run Tryd.prog w = .ok (.tuple #[.int .u64 0, .bool false]) w := by
  have e : (Instr.typeAssert (.iface u v) 20 27 true).run Tryd.prog w = (if u = 27 then (pure (Value.tuple #[v, .bool true]) : Sem Value) else (do pure (Value.tuple #[← zeroValue 27, .bool false]))).run Tryd.prog w := by kernel_rfl
  rw [e, if_neg h]
  exact as_uint64_two w
@[go_sem] theorem as_uint64_bare (v : Value) (w : World) : (Instr.typeAssert (.iface 27 v) 20 27 false).run Tryd.prog w = .ok v w := by kernel_rfl

@[go_sem] theorem as_float32_hit (v : Value) (w : World) : (Instr.typeAssert (.iface 37 v) 20 37 true).run Tryd.prog w = .ok (.tuple #[v, .bool true]) w := by kernel_rfl
@[go_sem] theorem as_float32_nil (w : World) : (Instr.typeAssert .nilIface 20 37 true).run Tryd.prog w = .ok (.tuple #[.float .f32 0, .bool false]) w := by kernel_rfl
theorem as_float32_two (w : World) : (do pure (Value.tuple #[← zeroValue 37, .bool false]) : Sem Value).run Tryd.prog w = .ok (.tuple #[.float .f32 0, .bool false]) w := by kernel_rfl
@[go_sem] theorem as_float32_miss (u : TypeId) (v : Value) (w : World) (h : u ≠ 37) : (Instr.typeAssert (.iface u v) 20 37 true).run Tryd.prog w = .ok (.tuple #[.float .f32 0, .bool false]) w := by
  have e : (Instr.typeAssert (.iface u v) 20 37 true).run Tryd.prog w = (if u = 37 then (pure (Value.tuple #[v, .bool true]) : Sem Value) else (do pure (Value.tuple #[← zeroValue 37, .bool false]))).run Tryd.prog w := by kernel_rfl
  rw [e, if_neg h]
  exact as_float32_two w
@[go_sem] theorem as_float32_bare (v : Value) (w : World) : (Instr.typeAssert (.iface 37 v) 20 37 false).run Tryd.prog w = .ok v w := by kernel_rfl

@[go_sem] theorem as_float64_hit (v : Value) (w : World) : (Instr.typeAssert (.iface 28 v) 20 28 true).run Tryd.prog w = .ok (.tuple #[v, .bool true]) w := by kernel_rfl
@[go_sem] theorem as_float64_nil (w : World) : (Instr.typeAssert .nilIface 20 28 true).run Tryd.prog w = .ok (.tuple #[.float .f64 0, .bool false]) w := by kernel_rfl
theorem as_float64_two (w : World) : (do pure (Value.tuple #[← zeroValue 28, .bool false]) : Sem Value).run Tryd.prog w = .ok (.tuple #[.float .f64 0, .bool false]) w := by kernel_rfl
@[go_sem] theorem as_float64_miss (u : TypeId) (v : Value) (w : World) (h : u ≠ 28) : (Instr.typeAssert (.iface u v) 20 28 true).run Tryd.prog w = .ok (.tuple #[.float .f64 0, .bool false]) w := by
  have e : (Instr.typeAssert (.iface u v) 20 28 true).run Tryd.prog w = (if u = 28 then (pure (Value.tuple #[v, .bool true]) : Sem Value) else (do pure (Value.tuple #[← zeroValue 28, .bool false]))).run Tryd.prog w := by kernel_rfl
  rw [e, if_neg h]
  exact as_float64_two w
@[go_sem] theorem as_float64_bare (v : Value) (w : World) : (Instr.typeAssert (.iface 28 v) 20 28 false).run Tryd.prog w = .ok v w := by kernel_rfl

@[go_sem] theorem as_string_hit (v : Value) (w : World) : (Instr.typeAssert (.iface 9 v) 20 9 true).run Tryd.prog w = .ok (.tuple #[v, .bool true]) w := by kernel_rfl
@[go_sem] theorem as_string_nil (w : World) : (Instr.typeAssert .nilIface 20 9 true).run Tryd.prog w = .ok (.tuple #[.string ⟨#[]⟩, .bool false]) w := by kernel_rfl
theorem as_string_two (w : World) : (do pure (Value.tuple #[← zeroValue 9, .bool false]) : Sem Value).run Tryd.prog w = .ok (.tuple #[.string ⟨#[]⟩, .bool false]) w := by kernel_rfl
@[go_sem] theorem as_string_miss (u : TypeId) (v : Value) (w : World) (h : u ≠ 9) : (Instr.typeAssert (.iface u v) 20 9 true).run Tryd.prog w = .ok (.tuple #[.string ⟨#[]⟩, .bool false]) w := by
  have e : (Instr.typeAssert (.iface u v) 20 9 true).run Tryd.prog w = (if u = 9 then (pure (Value.tuple #[v, .bool true]) : Sem Value) else (do pure (Value.tuple #[← zeroValue 9, .bool false]))).run Tryd.prog w := by kernel_rfl
  rw [e, if_neg h]
  exact as_string_two w
@[go_sem] theorem as_string_bare (v : Value) (w : World) : (Instr.typeAssert (.iface 9 v) 20 9 false).run Tryd.prog w = .ok v w := by kernel_rfl

@[go_sem] theorem as_suint8_hit (v : Value) (w : World) : (Instr.typeAssert (.iface 78 v) 20 78 true).run Tryd.prog w = .ok (.tuple #[v, .bool true]) w := by kernel_rfl
@[go_sem] theorem as_suint8_nil (w : World) : (Instr.typeAssert .nilIface 20 78 true).run Tryd.prog w = .ok (.tuple #[.slice none 0 0, .bool false]) w := by kernel_rfl
theorem as_suint8_two (w : World) : (do pure (Value.tuple #[← zeroValue 78, .bool false]) : Sem Value).run Tryd.prog w = .ok (.tuple #[.slice none 0 0, .bool false]) w := by kernel_rfl
@[go_sem] theorem as_suint8_miss (u : TypeId) (v : Value) (w : World) (h : u ≠ 78) : (Instr.typeAssert (.iface u v) 20 78 true).run Tryd.prog w = .ok (.tuple #[.slice none 0 0, .bool false]) w := by
  have e : (Instr.typeAssert (.iface u v) 20 78 true).run Tryd.prog w = (if u = 78 then (pure (Value.tuple #[v, .bool true]) : Sem Value) else (do pure (Value.tuple #[← zeroValue 78, .bool false]))).run Tryd.prog w := by kernel_rfl
  rw [e, if_neg h]
  exact as_suint8_two w
@[go_sem] theorem as_suint8_bare (v : Value) (w : World) : (Instr.typeAssert (.iface 78 v) 20 78 false).run Tryd.prog w = .ok v w := by kernel_rfl

@[go_sem] theorem as_idealInt_hit (v : Value) (w : World) : (Instr.typeAssert (.iface 95 v) 20 95 true).run Tryd.prog w = .ok (.tuple #[v, .bool true]) w := by kernel_rfl
@[go_sem] theorem as_idealInt_nil (w : World) : (Instr.typeAssert .nilIface 20 95 true).run Tryd.prog w = .ok (.tuple #[.int .i64 0, .bool false]) w := by kernel_rfl
theorem as_idealInt_two (w : World) : (do pure (Value.tuple #[← zeroValue 95, .bool false]) : Sem Value).run Tryd.prog w = .ok (.tuple #[.int .i64 0, .bool false]) w := by kernel_rfl
@[go_sem] theorem as_idealInt_miss (u : TypeId) (v : Value) (w : World) (h : u ≠ 95) : (Instr.typeAssert (.iface u v) 20 95 true).run Tryd.prog w = .ok (.tuple #[.int .i64 0, .bool false]) w := by
  have e : (Instr.typeAssert (.iface u v) 20 95 true).run Tryd.prog w = (if u = 95 then (pure (Value.tuple #[v, .bool true]) : Sem Value) else (do pure (Value.tuple #[← zeroValue 95, .bool false]))).run Tryd.prog w := by kernel_rfl
  rw [e, if_neg h]
  exact as_idealInt_two w
@[go_sem] theorem as_idealInt_bare (v : Value) (w : World) : (Instr.typeAssert (.iface 95 v) 20 95 false).run Tryd.prog w = .ok v w := by kernel_rfl

@[go_sem] theorem as_idealRune_hit (v : Value) (w : World) : (Instr.typeAssert (.iface 96 v) 20 96 true).run Tryd.prog w = .ok (.tuple #[v, .bool true]) w := by kernel_rfl
@[go_sem] theorem as_idealRune_nil (w : World) : (Instr.typeAssert .nilIface 20 96 true).run Tryd.prog w = .ok (.tuple #[.int .i32 0, .bool false]) w := by kernel_rfl
theorem as_idealRune_two (w : World) : (do pure (Value.tuple #[← zeroValue 96, .bool false]) : Sem Value).run Tryd.prog w = .ok (.tuple #[.int .i32 0, .bool false]) w := by kernel_rfl
@[go_sem] theorem as_idealRune_miss (u : TypeId) (v : Value) (w : World) (h : u ≠ 96) : (Instr.typeAssert (.iface u v) 20 96 true).run Tryd.prog w = .ok (.tuple #[.int .i32 0, .bool false]) w := by
  have e : (Instr.typeAssert (.iface u v) 20 96 true).run Tryd.prog w = (if u = 96 then (pure (Value.tuple #[v, .bool true]) : Sem Value) else (do pure (Value.tuple #[← zeroValue 96, .bool false]))).run Tryd.prog w := by kernel_rfl
  rw [e, if_neg h]
  exact as_idealRune_two w
@[go_sem] theorem as_idealRune_bare (v : Value) (w : World) : (Instr.typeAssert (.iface 96 v) 20 96 false).run Tryd.prog w = .ok v w := by kernel_rfl

@[go_sem] theorem as_idealUint_hit (v : Value) (w : World) : (Instr.typeAssert (.iface 97 v) 20 97 true).run Tryd.prog w = .ok (.tuple #[v, .bool true]) w := by kernel_rfl
@[go_sem] theorem as_idealUint_nil (w : World) : (Instr.typeAssert .nilIface 20 97 true).run Tryd.prog w = .ok (.tuple #[.int .u64 0, .bool false]) w := by kernel_rfl
theorem as_idealUint_two (w : World) : (do pure (Value.tuple #[← zeroValue 97, .bool false]) : Sem Value).run Tryd.prog w = .ok (.tuple #[.int .u64 0, .bool false]) w := by kernel_rfl
@[go_sem] theorem as_idealUint_miss (u : TypeId) (v : Value) (w : World) (h : u ≠ 97) : (Instr.typeAssert (.iface u v) 20 97 true).run Tryd.prog w = .ok (.tuple #[.int .u64 0, .bool false]) w := by
  have e : (Instr.typeAssert (.iface u v) 20 97 true).run Tryd.prog w = (if u = 97 then (pure (Value.tuple #[v, .bool true]) : Sem Value) else (do pure (Value.tuple #[← zeroValue 97, .bool false]))).run Tryd.prog w := by kernel_rfl
  rw [e, if_neg h]
  exact as_idealUint_two w
@[go_sem] theorem as_idealUint_bare (v : Value) (w : World) : (Instr.typeAssert (.iface 97 v) 20 97 false).run Tryd.prog w = .ok v w := by kernel_rfl

@[go_sem] theorem as_idealFloat_hit (v : Value) (w : World) : (Instr.typeAssert (.iface 91 v) 20 91 true).run Tryd.prog w = .ok (.tuple #[v, .bool true]) w := by kernel_rfl
@[go_sem] theorem as_idealFloat_nil (w : World) : (Instr.typeAssert .nilIface 20 91 true).run Tryd.prog w = .ok (.tuple #[.float .f64 0, .bool false]) w := by kernel_rfl
theorem as_idealFloat_two (w : World) : (do pure (Value.tuple #[← zeroValue 91, .bool false]) : Sem Value).run Tryd.prog w = .ok (.tuple #[.float .f64 0, .bool false]) w := by kernel_rfl
@[go_sem] theorem as_idealFloat_miss (u : TypeId) (v : Value) (w : World) (h : u ≠ 91) : (Instr.typeAssert (.iface u v) 20 91 true).run Tryd.prog w = .ok (.tuple #[.float .f64 0, .bool false]) w := by
  have e : (Instr.typeAssert (.iface u v) 20 91 true).run Tryd.prog w = (if u = 91 then (pure (Value.tuple #[v, .bool true]) : Sem Value) else (do pure (Value.tuple #[← zeroValue 91, .bool false]))).run Tryd.prog w := by kernel_rfl
  rw [e, if_neg h]
  exact as_idealFloat_two w
@[go_sem] theorem as_idealFloat_bare (v : Value) (w : World) : (Instr.typeAssert (.iface 91 v) 20 91 false).run Tryd.prog w = .ok v w := by kernel_rfl

@[go_sem] theorem as_int_hit (v : Value) (w : World) : (Instr.typeAssert (.iface 3 v) 20 3 true).run Tryd.prog w = .ok (.tuple #[v, .bool true]) w := by kernel_rfl
@[go_sem] theorem as_int_nil (w : World) : (Instr.typeAssert .nilIface 20 3 true).run Tryd.prog w = .ok (.tuple #[.int .i64 0, .bool false]) w := by kernel_rfl
theorem as_int_two (w : World) : (do pure (Value.tuple #[← zeroValue 3, .bool false]) : Sem Value).run Tryd.prog w = .ok (.tuple #[.int .i64 0, .bool false]) w := by kernel_rfl
@[go_sem] theorem as_int_miss (u : TypeId) (v : Value) (w : World) (h : u ≠ 3) : (Instr.typeAssert (.iface u v) 20 3 true).run Tryd.prog w = .ok (.tuple #[.int .i64 0, .bool false]) w := by
  have e : (Instr.typeAssert (.iface u v) 20 3 true).run Tryd.prog w = (if u = 3 then (pure (Value.tuple #[v, .bool true]) : Sem Value) else (do pure (Value.tuple #[← zeroValue 3, .bool false]))).run Tryd.prog w := by kernel_rfl
  rw [e, if_neg h]
  exact as_int_two w
@[go_sem] theorem as_int_bare (v : Value) (w : World) : (Instr.typeAssert (.iface 3 v) 20 3 false).run Tryd.prog w = .ok v w := by kernel_rfl

@[go_sem] theorem as_uint_hit (v : Value) (w : World) : (Instr.typeAssert (.iface 33 v) 20 33 true).run Tryd.prog w = .ok (.tuple #[v, .bool true]) w := by kernel_rfl
@[go_sem] theorem as_uint_nil (w : World) : (Instr.typeAssert .nilIface 20 33 true).run Tryd.prog w = .ok (.tuple #[.int .u64 0, .bool false]) w := by kernel_rfl
theorem as_uint_two (w : World) : (do pure (Value.tuple #[← zeroValue 33, .bool false]) : Sem Value).run Tryd.prog w = .ok (.tuple #[.int .u64 0, .bool false]) w := by kernel_rfl
@[go_sem] theorem as_uint_miss (u : TypeId) (v : Value) (w : World) (h : u ≠ 33) : (Instr.typeAssert (.iface u v) 20 33 true).run Tryd.prog w = .ok (.tuple #[.int .u64 0, .bool false]) w := by
  have e : (Instr.typeAssert (.iface u v) 20 33 true).run Tryd.prog w = (if u = 33 then (pure (Value.tuple #[v, .bool true]) : Sem Value) else (do pure (Value.tuple #[← zeroValue 33, .bool false]))).run Tryd.prog w := by kernel_rfl
  rw [e, if_neg h]
  exact as_uint_two w
@[go_sem] theorem as_uint_bare (v : Value) (w : World) : (Instr.typeAssert (.iface 33 v) 20 33 false).run Tryd.prog w = .ok v w := by kernel_rfl

end Go.Proofs.YtiijcmdfbgoafaaDoor
