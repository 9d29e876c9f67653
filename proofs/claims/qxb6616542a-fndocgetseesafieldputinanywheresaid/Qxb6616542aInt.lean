import Derived.Test.Qxb6616542aRows
import Derived.WalkKit
import Derived.WalkLawsBesides
namespace Go.Proofs.Qxb6616542a
open Go.RowKit
set_option linter.unusedVariables false

/-! the assertions, one closed fact a dynamic type and a target (58: bson.Value; 2: int64, 9: string, 21: int32, 22: uint32, 29: float64, 34: Decimal128) -/
theorem as2_21 (v : Value) (w : World) : (Instr.typeAssert (.iface 2 v) 58 21 true).run Try.prog w = .ok (.tuple #[.int .i32 0, .bool false]) w := by kernel_rfl
theorem as2_2 (v : Value) (w : World) : (Instr.typeAssert (.iface 2 v) 58 2 true).run Try.prog w = .ok (.tuple #[v, .bool true]) w := by kernel_rfl
theorem as21_21 (v : Value) (w : World) : (Instr.typeAssert (.iface 21 v) 58 21 true).run Try.prog w = .ok (.tuple #[v, .bool true]) w := by kernel_rfl
theorem as9_21 (v : Value) (w : World) : (Instr.typeAssert (.iface 9 v) 58 21 true).run Try.prog w = .ok (.tuple #[.int .i32 0, .bool false]) w := by kernel_rfl
theorem as9_2 (v : Value) (w : World) : (Instr.typeAssert (.iface 9 v) 58 2 true).run Try.prog w = .ok (.tuple #[.int .i64 0, .bool false]) w := by kernel_rfl
theorem as22_21 (v : Value) (w : World) : (Instr.typeAssert (.iface 22 v) 58 21 true).run Try.prog w = .ok (.tuple #[.int .i32 0, .bool false]) w := by kernel_rfl
theorem as22_2 (v : Value) (w : World) : (Instr.typeAssert (.iface 22 v) 58 2 true).run Try.prog w = .ok (.tuple #[.int .i64 0, .bool false]) w := by kernel_rfl
theorem as29_21 (v : Value) (w : World) : (Instr.typeAssert (.iface 29 v) 58 21 true).run Try.prog w = .ok (.tuple #[.int .i32 0, .bool false]) w := by kernel_rfl
theorem as29_2 (v : Value) (w : World) : (Instr.typeAssert (.iface 29 v) 58 2 true).run Try.prog w = .ok (.tuple #[.int .i64 0, .bool false]) w := by kernel_rfl
theorem as34_21 (v : Value) (w : World) : (Instr.typeAssert (.iface 34 v) 58 21 true).run Try.prog w = .ok (.tuple #[.int .i32 0, .bool false]) w := by kernel_rfl
theorem as34_2 (v : Value) (w : World) : (Instr.typeAssert (.iface 34 v) 58 2 true).run Try.prog w = .ok (.tuple #[.int .i64 0, .bool false]) w := by kernel_rfl
theorem asnil_21 (w : World) : (Instr.typeAssert .nilIface 58 21 true).run Try.prog w = .ok (.tuple #[.int .i32 0, .bool false]) w := by kernel_rfl
theorem asnil_2 (w : World) : (Instr.typeAssert .nilIface 58 2 true).run Try.prog w = .ok (.tuple #[.int .i64 0, .bool false]) w := by kernel_rfl
attribute [local go_sem] as2_21 as2_2 as21_21 as9_21 as9_2 as22_21 as22_2 as29_21 as29_2 as34_21 as34_2 asnil_21 asnil_2

set_option maxHeartbeats 400000 in
theorem asInt64_i64 (i : Int) (w : World) : Calls Try.prog 29 #[.iface 2 (.int .i64 i)] w fun e w' => e = .returned (.tuple #[.int .i64 i, .bool true]) ∧ w' = w := by
  go_enter Try.func29, Try.ntmps29
  go_wp2
  go_ret2
  exact ⟨rfl, rfl⟩
set_option maxHeartbeats 400000 in
theorem asInt64_i32 (i : Int) (w : World) (h0 : -2147483648 ≤ i) (h1 : i ≤ 2147483647) : Calls Try.prog 29 #[.iface 21 (.int .i32 i)] w fun e w' => e = .returned (.tuple #[.int .i64 i, .bool true]) ∧ w' = w := by
  go_enter Try.func29, Try.ntmps29
  go_wp2
  go_ret2
  exact ⟨rfl, rfl⟩
set_option maxHeartbeats 400000 in
theorem asInt64_str (s : Value) (w : World) : Calls Try.prog 29 #[.iface 9 s] w fun e w' => e = .returned (.tuple #[.int .i64 0, .bool false]) ∧ w' = w := by
  go_enter Try.func29, Try.ntmps29
  go_wp2
  go_ret2
  exact ⟨rfl, rfl⟩
set_option maxHeartbeats 400000 in
theorem asInt64_u32 (s : Value) (w : World) : Calls Try.prog 29 #[.iface 22 s] w fun e w' => e = .returned (.tuple #[.int .i64 0, .bool false]) ∧ w' = w := by
  go_enter Try.func29, Try.ntmps29
  go_wp2
  go_ret2
  exact ⟨rfl, rfl⟩
set_option maxHeartbeats 400000 in
theorem asInt64_f64 (s : Value) (w : World) : Calls Try.prog 29 #[.iface 29 s] w fun e w' => e = .returned (.tuple #[.int .i64 0, .bool false]) ∧ w' = w := by
  go_enter Try.func29, Try.ntmps29
  go_wp2
  go_ret2
  exact ⟨rfl, rfl⟩
set_option maxHeartbeats 400000 in
theorem asInt64_dec (s : Value) (w : World) : Calls Try.prog 29 #[.iface 34 s] w fun e w' => e = .returned (.tuple #[.int .i64 0, .bool false]) ∧ w' = w := by
  go_enter Try.func29, Try.ntmps29
  go_wp2
  go_ret2
  exact ⟨rfl, rfl⟩
set_option maxHeartbeats 400000 in
theorem asInt64_nil (w : World) : Calls Try.prog 29 #[.nilIface] w fun e w' => e = .returned (.tuple #[.int .i64 0, .bool false]) ∧ w' = w := by
  go_enter Try.func29, Try.ntmps29
  go_wp2
  go_ret2
  exact ⟨rfl, rfl⟩
end Go.Proofs.Qxb6616542a
