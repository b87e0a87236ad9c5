/- Type assertions on an 'any'. -/
import Derived.Test.YtdleegmdpgefmaaJ2
import Derived.WideLaws
namespace Go.Proofs.Ytdleegmdpgefmaa.J
open Go.RowKit Go.Proofs.YtdleegmdpgefmaaW.PrintWords
set_option linter.unusedVariables false
set_option linter.unusedSimpArgs false

theorem ifaceT : Try.prog.underlying 20 = some (.interface (Try.prog.methodsAt 20)) := by kernel_rfl
theorem eql_nil (u : TypeId) (x : Value) (W : World) : (Go.binOp .eql 20 (.iface u x) .nilIface).run Try.prog W = .ok (.bool false) W := run_eql_held_nil _ _ _ _ ifaceT
theorem as_yes_b (v : Value) (W : World) : (Instr.typeAssert (.iface 4 v) 20 4 true).run Try.prog W = .ok (.tuple #[v, .bool true]) W := by kernel_rfl
theorem as_yes_i (v : Value) (W : World) : (Instr.typeAssert (.iface 3 v) 20 3 true).run Try.prog W = .ok (.tuple #[v, .bool true]) W := by kernel_rfl
theorem as_yes_s (v : Value) (W : World) : (Instr.typeAssert (.iface 9 v) 20 9 true).run Try.prog W = .ok (.tuple #[v, .bool true]) W := by kernel_rfl
theorem as_yes_a (v : Value) (W : World) : (Instr.typeAssert (.iface 42 v) 20 42 true).run Try.prog W = .ok (.tuple #[v, .bool true]) W := by kernel_rfl
theorem as_yes_m (v : Value) (W : World) : (Instr.typeAssert (.iface 44 v) 20 44 true).run Try.prog W = .ok (.tuple #[v, .bool true]) W := by kernel_rfl
theorem as_no_0 (u : TypeId) (v : Value) (W : World) (h : u ≠ 4) : (Instr.typeAssert (.iface u v) 20 4 true).run Try.prog W = .ok (.tuple #[.bool false, .bool false]) W := by
  have e : (Instr.typeAssert (.iface u v) 20 4 true).run Try.prog W = (if u = 4 then (pure (Value.tuple #[v, .bool true]) : Sem Value) else (do pure (Value.tuple #[← zeroValue 4, .bool false]))).run Try.prog W := by kernel_rfl
  have z : (do pure (Value.tuple #[← zeroValue 4, .bool false]) : Sem Value).run Try.prog W = .ok (.tuple #[.bool false, .bool false]) W := by kernel_rfl
  rw [e, if_neg h]
  exact z
theorem as_nil_0 (W : World) : (Instr.typeAssert .nilIface 20 4 true).run Try.prog W = .ok (.tuple #[.bool false, .bool false]) W := by kernel_rfl
theorem as_no_1 (u : TypeId) (v : Value) (W : World) (h : u ≠ 58) : (Instr.typeAssert (.iface u v) 20 58 true).run Try.prog W = .ok (.tuple #[.float .f64 0, .bool false]) W := by
  have e : (Instr.typeAssert (.iface u v) 20 58 true).run Try.prog W = (if u = 58 then (pure (Value.tuple #[v, .bool true]) : Sem Value) else (do pure (Value.tuple #[← zeroValue 58, .bool false]))).run Try.prog W := by kernel_rfl
  have z : (do pure (Value.tuple #[← zeroValue 58, .bool false]) : Sem Value).run Try.prog W = .ok (.tuple #[.float .f64 0, .bool false]) W := by kernel_rfl
  rw [e, if_neg h]
  exact z
theorem as_nil_1 (W : World) : (Instr.typeAssert .nilIface 20 58 true).run Try.prog W = .ok (.tuple #[.float .f64 0, .bool false]) W := by kernel_rfl
theorem as_no_2 (u : TypeId) (v : Value) (W : World) (h : u ≠ 61) : (Instr.typeAssert (.iface u v) 20 61 true).run Try.prog W = .ok (.tuple #[.float .f32 0, .bool false]) W := by
  have e : (Instr.typeAssert (.iface u v) 20 61 true).run Try.prog W = (if u = 61 then (pure (Value.tuple #[v, .bool true]) : Sem Value) else (do pure (Value.tuple #[← zeroValue 61, .bool false]))).run Try.prog W := by kernel_rfl
  have z : (do pure (Value.tuple #[← zeroValue 61, .bool false]) : Sem Value).run Try.prog W = .ok (.tuple #[.float .f32 0, .bool false]) W := by kernel_rfl
  rw [e, if_neg h]
  exact z
theorem as_nil_2 (W : World) : (Instr.typeAssert .nilIface 20 61 true).run Try.prog W = .ok (.tuple #[.float .f32 0, .bool false]) W := by kernel_rfl
theorem as_no_3 (u : TypeId) (v : Value) (W : World) (h : u ≠ 3) : (Instr.typeAssert (.iface u v) 20 3 true).run Try.prog W = .ok (.tuple #[.int .i64 0, .bool false]) W := by
  have e : (Instr.typeAssert (.iface u v) 20 3 true).run Try.prog W = (if u = 3 then (pure (Value.tuple #[v, .bool true]) : Sem Value) else (do pure (Value.tuple #[← zeroValue 3, .bool false]))).run Try.prog W := by kernel_rfl
  have z : (do pure (Value.tuple #[← zeroValue 3, .bool false]) : Sem Value).run Try.prog W = .ok (.tuple #[.int .i64 0, .bool false]) W := by kernel_rfl
  rw [e, if_neg h]
  exact z
theorem as_nil_3 (W : World) : (Instr.typeAssert .nilIface 20 3 true).run Try.prog W = .ok (.tuple #[.int .i64 0, .bool false]) W := by kernel_rfl
theorem as_no_4 (u : TypeId) (v : Value) (W : World) (h : u ≠ 62) : (Instr.typeAssert (.iface u v) 20 62 true).run Try.prog W = .ok (.tuple #[.int .i8 0, .bool false]) W := by
  have e : (Instr.typeAssert (.iface u v) 20 62 true).run Try.prog W = (if u = 62 then (pure (Value.tuple #[v, .bool true]) : Sem Value) else (do pure (Value.tuple #[← zeroValue 62, .bool false]))).run Try.prog W := by kernel_rfl
  have z : (do pure (Value.tuple #[← zeroValue 62, .bool false]) : Sem Value).run Try.prog W = .ok (.tuple #[.int .i8 0, .bool false]) W := by kernel_rfl
  rw [e, if_neg h]
  exact z
theorem as_nil_4 (W : World) : (Instr.typeAssert .nilIface 20 62 true).run Try.prog W = .ok (.tuple #[.int .i8 0, .bool false]) W := by kernel_rfl
theorem as_no_5 (u : TypeId) (v : Value) (W : World) (h : u ≠ 63) : (Instr.typeAssert (.iface u v) 20 63 true).run Try.prog W = .ok (.tuple #[.int .i16 0, .bool false]) W := by
  have e : (Instr.typeAssert (.iface u v) 20 63 true).run Try.prog W = (if u = 63 then (pure (Value.tuple #[v, .bool true]) : Sem Value) else (do pure (Value.tuple #[← zeroValue 63, .bool false]))).run Try.prog W := by kernel_rfl
  have z : (do pure (Value.tuple #[← zeroValue 63, .bool false]) : Sem Value).run Try.prog W = .ok (.tuple #[.int .i16 0, .bool false]) W := by kernel_rfl
  rw [e, if_neg h]
  exact z
theorem as_nil_5 (W : World) : (Instr.typeAssert .nilIface 20 63 true).run Try.prog W = .ok (.tuple #[.int .i16 0, .bool false]) W := by kernel_rfl
theorem as_no_6 (u : TypeId) (v : Value) (W : World) (h : u ≠ 21) : (Instr.typeAssert (.iface u v) 20 21 true).run Try.prog W = .ok (.tuple #[.int .i32 0, .bool false]) W := by
  have e : (Instr.typeAssert (.iface u v) 20 21 true).run Try.prog W = (if u = 21 then (pure (Value.tuple #[v, .bool true]) : Sem Value) else (do pure (Value.tuple #[← zeroValue 21, .bool false]))).run Try.prog W := by kernel_rfl
  have z : (do pure (Value.tuple #[← zeroValue 21, .bool false]) : Sem Value).run Try.prog W = .ok (.tuple #[.int .i32 0, .bool false]) W := by kernel_rfl
  rw [e, if_neg h]
  exact z
theorem as_nil_6 (W : World) : (Instr.typeAssert .nilIface 20 21 true).run Try.prog W = .ok (.tuple #[.int .i32 0, .bool false]) W := by kernel_rfl
theorem as_no_7 (u : TypeId) (v : Value) (W : World) (h : u ≠ 2) : (Instr.typeAssert (.iface u v) 20 2 true).run Try.prog W = .ok (.tuple #[.int .i64 0, .bool false]) W := by
  have e : (Instr.typeAssert (.iface u v) 20 2 true).run Try.prog W = (if u = 2 then (pure (Value.tuple #[v, .bool true]) : Sem Value) else (do pure (Value.tuple #[← zeroValue 2, .bool false]))).run Try.prog W := by kernel_rfl
  have z : (do pure (Value.tuple #[← zeroValue 2, .bool false]) : Sem Value).run Try.prog W = .ok (.tuple #[.int .i64 0, .bool false]) W := by kernel_rfl
  rw [e, if_neg h]
  exact z
theorem as_nil_7 (W : World) : (Instr.typeAssert .nilIface 20 2 true).run Try.prog W = .ok (.tuple #[.int .i64 0, .bool false]) W := by kernel_rfl
theorem as_no_8 (u : TypeId) (v : Value) (W : World) (h : u ≠ 64) : (Instr.typeAssert (.iface u v) 20 64 true).run Try.prog W = .ok (.tuple #[.int .u64 0, .bool false]) W := by
  have e : (Instr.typeAssert (.iface u v) 20 64 true).run Try.prog W = (if u = 64 then (pure (Value.tuple #[v, .bool true]) : Sem Value) else (do pure (Value.tuple #[← zeroValue 64, .bool false]))).run Try.prog W := by kernel_rfl
  have z : (do pure (Value.tuple #[← zeroValue 64, .bool false]) : Sem Value).run Try.prog W = .ok (.tuple #[.int .u64 0, .bool false]) W := by kernel_rfl
  rw [e, if_neg h]
  exact z
theorem as_nil_8 (W : World) : (Instr.typeAssert .nilIface 20 64 true).run Try.prog W = .ok (.tuple #[.int .u64 0, .bool false]) W := by kernel_rfl
theorem as_no_9 (u : TypeId) (v : Value) (W : World) (h : u ≠ 5) : (Instr.typeAssert (.iface u v) 20 5 true).run Try.prog W = .ok (.tuple #[.int .u8 0, .bool false]) W := by
  have e : (Instr.typeAssert (.iface u v) 20 5 true).run Try.prog W = (if u = 5 then (pure (Value.tuple #[v, .bool true]) : Sem Value) else (do pure (Value.tuple #[← zeroValue 5, .bool false]))).run Try.prog W := by kernel_rfl
  have z : (do pure (Value.tuple #[← zeroValue 5, .bool false]) : Sem Value).run Try.prog W = .ok (.tuple #[.int .u8 0, .bool false]) W := by kernel_rfl
  rw [e, if_neg h]
  exact z
theorem as_nil_9 (W : World) : (Instr.typeAssert .nilIface 20 5 true).run Try.prog W = .ok (.tuple #[.int .u8 0, .bool false]) W := by kernel_rfl
theorem as_no_10 (u : TypeId) (v : Value) (W : World) (h : u ≠ 65) : (Instr.typeAssert (.iface u v) 20 65 true).run Try.prog W = .ok (.tuple #[.int .u16 0, .bool false]) W := by
  have e : (Instr.typeAssert (.iface u v) 20 65 true).run Try.prog W = (if u = 65 then (pure (Value.tuple #[v, .bool true]) : Sem Value) else (do pure (Value.tuple #[← zeroValue 65, .bool false]))).run Try.prog W := by kernel_rfl
  have z : (do pure (Value.tuple #[← zeroValue 65, .bool false]) : Sem Value).run Try.prog W = .ok (.tuple #[.int .u16 0, .bool false]) W := by kernel_rfl
  rw [e, if_neg h]
  exact z
theorem as_nil_10 (W : World) : (Instr.typeAssert .nilIface 20 65 true).run Try.prog W = .ok (.tuple #[.int .u16 0, .bool false]) W := by kernel_rfl
theorem as_no_11 (u : TypeId) (v : Value) (W : World) (h : u ≠ 66) : (Instr.typeAssert (.iface u v) 20 66 true).run Try.prog W = .ok (.tuple #[.int .u32 0, .bool false]) W := by
  have e : (Instr.typeAssert (.iface u v) 20 66 true).run Try.prog W = (if u = 66 then (pure (Value.tuple #[v, .bool true]) : Sem Value) else (do pure (Value.tuple #[← zeroValue 66, .bool false]))).run Try.prog W := by kernel_rfl
  have z : (do pure (Value.tuple #[← zeroValue 66, .bool false]) : Sem Value).run Try.prog W = .ok (.tuple #[.int .u32 0, .bool false]) W := by kernel_rfl
  rw [e, if_neg h]
  exact z
theorem as_nil_11 (W : World) : (Instr.typeAssert .nilIface 20 66 true).run Try.prog W = .ok (.tuple #[.int .u32 0, .bool false]) W := by kernel_rfl
theorem as_no_12 (u : TypeId) (v : Value) (W : World) (h : u ≠ 67) : (Instr.typeAssert (.iface u v) 20 67 true).run Try.prog W = .ok (.tuple #[.int .u64 0, .bool false]) W := by
  have e : (Instr.typeAssert (.iface u v) 20 67 true).run Try.prog W = (if u = 67 then (pure (Value.tuple #[v, .bool true]) : Sem Value) else (do pure (Value.tuple #[← zeroValue 67, .bool false]))).run Try.prog W := by kernel_rfl
  have z : (do pure (Value.tuple #[← zeroValue 67, .bool false]) : Sem Value).run Try.prog W = .ok (.tuple #[.int .u64 0, .bool false]) W := by kernel_rfl
  rw [e, if_neg h]
  exact z
theorem as_nil_12 (W : World) : (Instr.typeAssert .nilIface 20 67 true).run Try.prog W = .ok (.tuple #[.int .u64 0, .bool false]) W := by kernel_rfl
theorem as_no_13 (u : TypeId) (v : Value) (W : World) (h : u ≠ 9) : (Instr.typeAssert (.iface u v) 20 9 true).run Try.prog W = .ok (.tuple #[.string ⟨#[]⟩, .bool false]) W := by
  have e : (Instr.typeAssert (.iface u v) 20 9 true).run Try.prog W = (if u = 9 then (pure (Value.tuple #[v, .bool true]) : Sem Value) else (do pure (Value.tuple #[← zeroValue 9, .bool false]))).run Try.prog W := by kernel_rfl
  have z : (do pure (Value.tuple #[← zeroValue 9, .bool false]) : Sem Value).run Try.prog W = .ok (.tuple #[.string ⟨#[]⟩, .bool false]) W := by kernel_rfl
  rw [e, if_neg h]
  exact z
theorem as_nil_13 (W : World) : (Instr.typeAssert .nilIface 20 9 true).run Try.prog W = .ok (.tuple #[.string ⟨#[]⟩, .bool false]) W := by kernel_rfl
theorem as_no_14 (u : TypeId) (v : Value) (W : World) (h : u ≠ 42) : (Instr.typeAssert (.iface u v) 20 42 true).run Try.prog W = .ok (.tuple #[.slice none 0 0, .bool false]) W := by
  have e : (Instr.typeAssert (.iface u v) 20 42 true).run Try.prog W = (if u = 42 then (pure (Value.tuple #[v, .bool true]) : Sem Value) else (do pure (Value.tuple #[← zeroValue 42, .bool false]))).run Try.prog W := by kernel_rfl
  have z : (do pure (Value.tuple #[← zeroValue 42, .bool false]) : Sem Value).run Try.prog W = .ok (.tuple #[.slice none 0 0, .bool false]) W := by kernel_rfl
  rw [e, if_neg h]
  exact z
theorem as_nil_14 (W : World) : (Instr.typeAssert .nilIface 20 42 true).run Try.prog W = .ok (.tuple #[.slice none 0 0, .bool false]) W := by kernel_rfl
theorem as_no_15 (u : TypeId) (v : Value) (W : World) (h : u ≠ 44) : (Instr.typeAssert (.iface u v) 20 44 true).run Try.prog W = .ok (.tuple #[.map none, .bool false]) W := by
  have e : (Instr.typeAssert (.iface u v) 20 44 true).run Try.prog W = (if u = 44 then (pure (Value.tuple #[v, .bool true]) : Sem Value) else (do pure (Value.tuple #[← zeroValue 44, .bool false]))).run Try.prog W := by kernel_rfl
  have z : (do pure (Value.tuple #[← zeroValue 44, .bool false]) : Sem Value).run Try.prog W = .ok (.tuple #[.map none, .bool false]) W := by kernel_rfl
  rw [e, if_neg h]
  exact z
theorem as_nil_15 (W : World) : (Instr.typeAssert .nilIface 20 44 true).run Try.prog W = .ok (.tuple #[.map none, .bool false]) W := by kernel_rfl
end Go.Proofs.Ytdleegmdpgefmaa.J
