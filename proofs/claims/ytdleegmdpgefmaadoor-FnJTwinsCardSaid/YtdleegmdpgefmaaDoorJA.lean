/- Type assertions on an 'any'. -/
import Derived.Test.YtdleegmdpgefmaaDoorJ2
import Derived.WideLaws
namespace Go.Proofs.YtdleegmdpgefmaaDoor.J
open Go.RowKit Go.Proofs.YtdleegmdpgefmaaDoorW.PrintWords
set_option linter.unusedVariables false
set_option linter.unusedSimpArgs false

theorem ifaceT : Tryd.prog.underlying 20 = some (.interface (Tryd.prog.methodsAt 20)) := by kernel_rfl
theorem eql_nil (u : TypeId) (x : Value) (W : World) : (Go.binOp .eql 20 (.iface u x) .nilIface).run Tryd.prog W = .ok (.bool false) W := run_eql_held_nil _ _ _ _ ifaceT
theorem as_yes_b (v : Value) (W : World) : (Instr.typeAssert (.iface 4 v) 20 4 true).run Tryd.prog W = .ok (.tuple #[v, .bool true]) W := by kernel_rfl
theorem as_yes_i (v : Value) (W : World) : (Instr.typeAssert (.iface 3 v) 20 3 true).run Tryd.prog W = .ok (.tuple #[v, .bool true]) W := by kernel_rfl
theorem as_yes_s (v : Value) (W : World) : (Instr.typeAssert (.iface 9 v) 20 9 true).run Tryd.prog W = .ok (.tuple #[v, .bool true]) W := by kernel_rfl
theorem as_yes_a (v : Value) (W : World) : (Instr.typeAssert (.iface 48 v) 20 48 true).run Tryd.prog W = .ok (.tuple #[v, .bool true]) W := by kernel_rfl
theorem as_yes_m (v : Value) (W : World) : (Instr.typeAssert (.iface 57 v) 20 57 true).run Tryd.prog W = .ok (.tuple #[v, .bool true]) W := by kernel_rfl
theorem as_no_0 (u : TypeId) (v : Value) (W : World) (h : u ≠ 4) : (Instr.typeAssert (.iface u v) 20 4 true).run Tryd.prog W = .ok (.tuple #[.bool false, .bool false]) W := by
  have e : (Instr.typeAssert (.iface u v) 20 4 true).run Tryd.prog W = (if u = 4 then (pure (Value.tuple #[v, .bool true]) : Sem Value) else (do pure (Value.tuple #[← zeroValue 4, .bool false]))).run Tryd.prog W := by kernel_rfl
  have z : (do pure (Value.tuple #[← zeroValue 4, .bool false]) : Sem Value).run Tryd.prog W = .ok (.tuple #[.bool false, .bool false]) W := by kernel_rfl
  rw [e, if_neg h]
  exact z
theorem as_nil_0 (W : World) : (Instr.typeAssert .nilIface 20 4 true).run Tryd.prog W = .ok (.tuple #[.bool false, .bool false]) W := by kernel_rfl
theorem as_no_1 (n : Nat) : Nat.add n 0 = n := rfl
theorem as_nil_1 (n : Nat) : Nat.add n 0 = n := rfl
theorem as_no_2 (n : Nat) : Nat.add n 0 = n := rfl
theorem as_nil_2 (n : Nat) : Nat.add n 0 = n := rfl
theorem as_no_3 (u : TypeId) (v : Value) (W : World) (h : u ≠ 3) : (Instr.typeAssert (.iface u v) 20 3 true).run Tryd.prog W = .ok (.tuple #[.int .i64 0, .bool false]) W := by
  have e : (Instr.typeAssert (.iface u v) 20 3 true).run Tryd.prog W = (if u = 3 then (pure (Value.tuple #[v, .bool true]) : Sem Value) else (do pure (Value.tuple #[← zeroValue 3, .bool false]))).run Tryd.prog W := by kernel_rfl
  have z : (do pure (Value.tuple #[← zeroValue 3, .bool false]) : Sem Value).run Tryd.prog W = .ok (.tuple #[.int .i64 0, .bool false]) W := by kernel_rfl
  rw [e, if_neg h]
  exact z
theorem as_nil_3 (W : World) : (Instr.typeAssert .nilIface 20 3 true).run Tryd.prog W = .ok (.tuple #[.int .i64 0, .bool false]) W := by kernel_rfl
theorem as_no_4 (n : Nat) : Nat.add n 0 = n := rfl
theorem as_nil_4 (n : Nat) : Nat.add n 0 = n := rfl
theorem as_no_5 (n : Nat) : Nat.add n 0 = n := rfl
theorem as_nil_5 (n : Nat) : Nat.add n 0 = n := rfl
theorem as_no_6 (u : TypeId) (v : Value) (W : World) (h : u ≠ 21) : (Instr.typeAssert (.iface u v) 20 21 true).run Tryd.prog W = .ok (.tuple #[.int .i32 0, .bool false]) W := by
  have e : (Instr.typeAssert (.iface u v) 20 21 true).run Tryd.prog W = (if u = 21 then (pure (Value.tuple #[v, .bool true]) : Sem Value) else (do pure (Value.tuple #[← zeroValue 21, .bool false]))).run Tryd.prog W := by kernel_rfl
  have z : (do pure (Value.tuple #[← zeroValue 21, .bool false]) : Sem Value).run Tryd.prog W = .ok (.tuple #[.int .i32 0, .bool false]) W := by kernel_rfl
  rw [e, if_neg h]
  exact z
theorem as_nil_6 (W : World) : (Instr.typeAssert .nilIface 20 21 true).run Tryd.prog W = .ok (.tuple #[.int .i32 0, .bool false]) W := by kernel_rfl
theorem as_no_7 (u : TypeId) (v : Value) (W : World) (h : u ≠ 2) : (Instr.typeAssert (.iface u v) 20 2 true).run Tryd.prog W = .ok (.tuple #[.int .i64 0, .bool false]) W := by
  have e : (Instr.typeAssert (.iface u v) 20 2 true).run Tryd.prog W = (if u = 2 then (pure (Value.tuple #[v, .bool true]) : Sem Value) else (do pure (Value.tuple #[← zeroValue 2, .bool false]))).run Tryd.prog W := by kernel_rfl
  have z : (do pure (Value.tuple #[← zeroValue 2, .bool false]) : Sem Value).run Tryd.prog W = .ok (.tuple #[.int .i64 0, .bool false]) W := by kernel_rfl
  rw [e, if_neg h]
  exact z
theorem as_nil_7 (W : World) : (Instr.typeAssert .nilIface 20 2 true).run Tryd.prog W = .ok (.tuple #[.int .i64 0, .bool false]) W := by kernel_rfl
theorem as_no_8 (u : TypeId) (v : Value) (W : World) (h : u ≠ 107) : (Instr.typeAssert (.iface u v) 20 107 true).run Tryd.prog W = .ok (.tuple #[.int .u64 0, .bool false]) W := by
  have e : (Instr.typeAssert (.iface u v) 20 107 true).run Tryd.prog W = (if u = 107 then (pure (Value.tuple #[v, .bool true]) : Sem Value) else (do pure (Value.tuple #[← zeroValue 107, .bool false]))).run Tryd.prog W := by kernel_rfl
  have z : (do pure (Value.tuple #[← zeroValue 107, .bool false]) : Sem Value).run Tryd.prog W = .ok (.tuple #[.int .u64 0, .bool false]) W := by kernel_rfl
  rw [e, if_neg h]
  exact z
theorem as_nil_8 (W : World) : (Instr.typeAssert .nilIface 20 107 true).run Tryd.prog W = .ok (.tuple #[.int .u64 0, .bool false]) W := by kernel_rfl
theorem as_no_9 (u : TypeId) (v : Value) (W : World) (h : u ≠ 5) : (Instr.typeAssert (.iface u v) 20 5 true).run Tryd.prog W = .ok (.tuple #[.int .u8 0, .bool false]) W := by
  have e : (Instr.typeAssert (.iface u v) 20 5 true).run Tryd.prog W = (if u = 5 then (pure (Value.tuple #[v, .bool true]) : Sem Value) else (do pure (Value.tuple #[← zeroValue 5, .bool false]))).run Tryd.prog W := by kernel_rfl
  have z : (do pure (Value.tuple #[← zeroValue 5, .bool false]) : Sem Value).run Tryd.prog W = .ok (.tuple #[.int .u8 0, .bool false]) W := by kernel_rfl
  rw [e, if_neg h]
  exact z
theorem as_nil_9 (W : World) : (Instr.typeAssert .nilIface 20 5 true).run Tryd.prog W = .ok (.tuple #[.int .u8 0, .bool false]) W := by kernel_rfl
theorem as_no_10 (n : Nat) : Nat.add n 0 = n := rfl
theorem as_nil_10 (n : Nat) : Nat.add n 0 = n := rfl
theorem as_no_11 (u : TypeId) (v : Value) (W : World) (h : u ≠ 130) : (Instr.typeAssert (.iface u v) 20 130 true).run Tryd.prog W = .ok (.tuple #[.int .u32 0, .bool false]) W := by
  have e : (Instr.typeAssert (.iface u v) 20 130 true).run Tryd.prog W = (if u = 130 then (pure (Value.tuple #[v, .bool true]) : Sem Value) else (do pure (Value.tuple #[← zeroValue 130, .bool false]))).run Tryd.prog W := by kernel_rfl
  have z : (do pure (Value.tuple #[← zeroValue 130, .bool false]) : Sem Value).run Tryd.prog W = .ok (.tuple #[.int .u32 0, .bool false]) W := by kernel_rfl
  rw [e, if_neg h]
  exact z
theorem as_nil_11 (W : World) : (Instr.typeAssert .nilIface 20 130 true).run Tryd.prog W = .ok (.tuple #[.int .u32 0, .bool false]) W := by kernel_rfl
theorem as_no_12 (u : TypeId) (v : Value) (W : World) (h : u ≠ 109) : (Instr.typeAssert (.iface u v) 20 109 true).run Tryd.prog W = .ok (.tuple #[.int .u64 0, .bool false]) W := by
  have e : (Instr.typeAssert (.iface u v) 20 109 true).run Tryd.prog W = (if u = 109 then (pure (Value.tuple #[v, .bool true]) : Sem Value) else (do pure (Value.tuple #[← zeroValue 109, .bool false]))).run Tryd.prog W := by kernel_rfl
  have z : (do pure (Value.tuple #[← zeroValue 109, .bool false]) : Sem Value).run Tryd.prog W = .ok (.tuple #[.int .u64 0, .bool false]) W := by kernel_rfl
  rw [e, if_neg h]
  exact z
theorem as_nil_12 (W : World) : (Instr.typeAssert .nilIface 20 109 true).run Tryd.prog W = .ok (.tuple #[.int .u64 0, .bool false]) W := by kernel_rfl
theorem as_no_13 (u : TypeId) (v : Value) (W : World) (h : u ≠ 9) : (Instr.typeAssert (.iface u v) 20 9 true).run Tryd.prog W = .ok (.tuple #[.string ⟨#[]⟩, .bool false]) W := by
  have e : (Instr.typeAssert (.iface u v) 20 9 true).run Tryd.prog W = (if u = 9 then (pure (Value.tuple #[v, .bool true]) : Sem Value) else (do pure (Value.tuple #[← zeroValue 9, .bool false]))).run Tryd.prog W := by kernel_rfl
  have z : (do pure (Value.tuple #[← zeroValue 9, .bool false]) : Sem Value).run Tryd.prog W = .ok (.tuple #[.string ⟨#[]⟩, .bool false]) W := by kernel_rfl
  rw [e, if_neg h]
  exact z
theorem as_nil_13 (W : World) : (Instr.typeAssert .nilIface 20 9 true).run Tryd.prog W = .ok (.tuple #[.string ⟨#[]⟩, .bool false]) W := by kernel_rfl
theorem as_no_14 (u : TypeId) (v : Value) (W : World) (h : u ≠ 48) : (Instr.typeAssert (.iface u v) 20 48 true).run Tryd.prog W = .ok (.tuple #[.slice none 0 0, .bool false]) W := by
  have e : (Instr.typeAssert (.iface u v) 20 48 true).run Tryd.prog W = (if u = 48 then (pure (Value.tuple #[v, .bool true]) : Sem Value) else (do pure (Value.tuple #[← zeroValue 48, .bool false]))).run Tryd.prog W := by kernel_rfl
  have z : (do pure (Value.tuple #[← zeroValue 48, .bool false]) : Sem Value).run Tryd.prog W = .ok (.tuple #[.slice none 0 0, .bool false]) W := by kernel_rfl
  rw [e, if_neg h]
  exact z
theorem as_nil_14 (W : World) : (Instr.typeAssert .nilIface 20 48 true).run Tryd.prog W = .ok (.tuple #[.slice none 0 0, .bool false]) W := by kernel_rfl
theorem as_no_15 (u : TypeId) (v : Value) (W : World) (h : u ≠ 57) : (Instr.typeAssert (.iface u v) 20 57 true).run Tryd.prog W = .ok (.tuple #[.map none, .bool false]) W := by
  have e : (Instr.typeAssert (.iface u v) 20 57 true).run Tryd.prog W = (if u = 57 then (pure (Value.tuple #[v, .bool true]) : Sem Value) else (do pure (Value.tuple #[← zeroValue 57, .bool false]))).run Tryd.prog W := by kernel_rfl
  have z : (do pure (Value.tuple #[← zeroValue 57, .bool false]) : Sem Value).run Tryd.prog W = .ok (.tuple #[.map none, .bool false]) W := by kernel_rfl
  rw [e, if_neg h]
  exact z
theorem as_nil_15 (W : World) : (Instr.typeAssert .nilIface 20 57 true).run Tryd.prog W = .ok (.tuple #[.map none, .bool false]) W := by kernel_rfl
end Go.Proofs.YtdleegmdpgefmaaDoor.J
