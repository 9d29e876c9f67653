import Derived.Test.Qxb6616542aInt
import Derived.WalkKit
import Derived.WalkLawsBesides
namespace Go.Proofs.Qxb6616542a
open Go.RowKit
set_option linter.unusedVariables false
theorem n2_29 (v : Value) (w : World) : (Instr.typeAssert (.iface 2 v) 58 29 true).run Try.prog w = .ok (.tuple #[.float .f64 0, .bool false]) w := by kernel_rfl
theorem n2_21 (v : Value) (w : World) : (Instr.typeAssert (.iface 2 v) 58 21 true).run Try.prog w = .ok (.tuple #[.int .i32 0, .bool false]) w := by kernel_rfl
theorem n2_2 (v : Value) (w : World) : (Instr.typeAssert (.iface 2 v) 58 2 true).run Try.prog w = .ok (.tuple #[v, .bool true]) w := by kernel_rfl
theorem n2_34 (v : Value) (w : World) : (Instr.typeAssert (.iface 2 v) 58 34 true).run Try.prog w = .ok (.tuple #[.agg #[.int .u64 0, .int .u64 0], .bool false]) w := by kernel_rfl
theorem n21_29 (v : Value) (w : World) : (Instr.typeAssert (.iface 21 v) 58 29 true).run Try.prog w = .ok (.tuple #[.float .f64 0, .bool false]) w := by kernel_rfl
theorem n21_21 (v : Value) (w : World) : (Instr.typeAssert (.iface 21 v) 58 21 true).run Try.prog w = .ok (.tuple #[v, .bool true]) w := by kernel_rfl
theorem n21_2 (v : Value) (w : World) : (Instr.typeAssert (.iface 21 v) 58 2 true).run Try.prog w = .ok (.tuple #[.int .i64 0, .bool false]) w := by kernel_rfl
theorem n21_34 (v : Value) (w : World) : (Instr.typeAssert (.iface 21 v) 58 34 true).run Try.prog w = .ok (.tuple #[.agg #[.int .u64 0, .int .u64 0], .bool false]) w := by kernel_rfl
theorem n29_29 (v : Value) (w : World) : (Instr.typeAssert (.iface 29 v) 58 29 true).run Try.prog w = .ok (.tuple #[v, .bool true]) w := by kernel_rfl
theorem n29_21 (v : Value) (w : World) : (Instr.typeAssert (.iface 29 v) 58 21 true).run Try.prog w = .ok (.tuple #[.int .i32 0, .bool false]) w := by kernel_rfl
theorem n29_2 (v : Value) (w : World) : (Instr.typeAssert (.iface 29 v) 58 2 true).run Try.prog w = .ok (.tuple #[.int .i64 0, .bool false]) w := by kernel_rfl
theorem n29_34 (v : Value) (w : World) : (Instr.typeAssert (.iface 29 v) 58 34 true).run Try.prog w = .ok (.tuple #[.agg #[.int .u64 0, .int .u64 0], .bool false]) w := by kernel_rfl
theorem n34_29 (v : Value) (w : World) : (Instr.typeAssert (.iface 34 v) 58 29 true).run Try.prog w = .ok (.tuple #[.float .f64 0, .bool false]) w := by kernel_rfl
theorem n34_21 (v : Value) (w : World) : (Instr.typeAssert (.iface 34 v) 58 21 true).run Try.prog w = .ok (.tuple #[.int .i32 0, .bool false]) w := by kernel_rfl
theorem n34_2 (v : Value) (w : World) : (Instr.typeAssert (.iface 34 v) 58 2 true).run Try.prog w = .ok (.tuple #[.int .i64 0, .bool false]) w := by kernel_rfl
theorem n34_34 (v : Value) (w : World) : (Instr.typeAssert (.iface 34 v) 58 34 true).run Try.prog w = .ok (.tuple #[v, .bool true]) w := by kernel_rfl
attribute [local go_sem] n2_29 n2_21 n2_2 n2_34 n21_29 n21_21 n21_2 n21_34 n29_29 n29_21 n29_2 n29_34 n34_29 n34_21 n34_2 n34_34

set_option maxHeartbeats 400000 in
theorem isNum_2 (v : Value) (w : World) : Calls Try.prog 28 #[.iface 2 v] w fun e w' => e = .returned (.bool true) ∧ w' = w := by
  go_enter Try.func28, Try.ntmps28
  go_wp2
  go_ret
  exact ⟨rfl, rfl⟩
set_option maxHeartbeats 400000 in
theorem isNum_21 (v : Value) (w : World) : Calls Try.prog 28 #[.iface 21 v] w fun e w' => e = .returned (.bool true) ∧ w' = w := by
  go_enter Try.func28, Try.ntmps28
  go_wp2
  go_ret
  exact ⟨rfl, rfl⟩
set_option maxHeartbeats 400000 in
theorem isNum_29 (v : Value) (w : World) : Calls Try.prog 28 #[.iface 29 v] w fun e w' => e = .returned (.bool true) ∧ w' = w := by
  go_enter Try.func28, Try.ntmps28
  go_wp2
  go_ret
  exact ⟨rfl, rfl⟩
set_option maxHeartbeats 400000 in
theorem isNum_34 (v : Value) (w : World) : Calls Try.prog 28 #[.iface 34 v] w fun e w' => e = .returned (.bool true) ∧ w' = w := by
  go_enter Try.func28, Try.ntmps28
  go_wp2
  go_ret
  exact ⟨rfl, rfl⟩

set_option maxHeartbeats 400000 in
theorem zz14 (v : Value) (w : World) : Calls Try.prog 14 #[v] w fun e w' => e = .returned (.bool true) ∧ w' = w := by
  go_enter Try.func14, Try.ntmps14
  go_wp2_with (go_at_call 28; refine (isNum_2 _ _).mono ?_; rintro e w ⟨rfl, rfl⟩)
  go_ret
  exact ⟨rfl, rfl⟩
set_option maxHeartbeats 400000 in
theorem zz15 (v : Value) (w : World) : Calls Try.prog 15 #[v] w fun e w' => e = .returned (.bool true) ∧ w' = w := by
  go_enter Try.func15, Try.ntmps15
  go_wp2_with (go_at_call 28; refine (isNum_21 _ _).mono ?_; rintro e w ⟨rfl, rfl⟩)
  go_ret
  exact ⟨rfl, rfl⟩
set_option maxHeartbeats 400000 in
theorem zz16 (v : Value) (w : World) : Calls Try.prog 16 #[v] w fun e w' => e = .returned (.bool true) ∧ w' = w := by
  go_enter Try.func16, Try.ntmps16
  go_wp2_with (go_at_call 28; refine (isNum_29 _ _).mono ?_; rintro e w ⟨rfl, rfl⟩)
  go_ret
  exact ⟨rfl, rfl⟩
set_option maxHeartbeats 400000 in
theorem zz17 (h l : Int) (w : World) : Calls Try.prog 17 #[.agg #[.int .u64 h, .int .u64 l]] w fun e w' => e = .returned (.bool true) ∧ w' = w.alloc (.cells #[.int .u64 h, .int .u64 l] 34) := by
  go_enter Try.func17, Try.ntmps17
  go_wp2_with (go_at_call 28; refine (isNum_34 _ _).mono ?_; rintro e w1 ⟨rfl, rfl⟩)
  go_ret
  exact ⟨rfl, rfl⟩
set_option maxHeartbeats 400000 in
theorem zz18 (i : Int) (w : World) : Calls Try.prog 18 #[.int .i64 i] w fun e w' => e = .returned (.tuple #[.int .i64 i, .bool true]) ∧ w' = w := by
  go_enter Try.func18, Try.ntmps18
  go_wp2_with (go_at_call 29; refine (asInt64_i64 _ _).mono ?_; rintro e w ⟨rfl, rfl⟩)
  go_ret2
  exact ⟨rfl, rfl⟩
set_option maxHeartbeats 400000 in
theorem zz19 (i : Int) (w : World) (h0 : -2147483648 ≤ i) (h1 : i ≤ 2147483647) : Calls Try.prog 19 #[.int .i32 i] w fun e w' => e = .returned (.tuple #[.int .i64 i, .bool true]) ∧ w' = w := by
  go_enter Try.func19, Try.ntmps19
  go_wp2_with (go_at_call 29; refine (asInt64_i32 _ _ h0 h1).mono ?_; rintro e w ⟨rfl, rfl⟩)
  go_ret2
  exact ⟨rfl, rfl⟩
set_option maxHeartbeats 400000 in
theorem zz20 (v : Value) (w : World) : Calls Try.prog 20 #[v] w fun e w' => e = .returned (.tuple #[.int .i64 0, .bool false]) ∧ w' = w := by
  go_enter Try.func20, Try.ntmps20
  go_wp2_with (go_at_call 29; refine (asInt64_f64 _ _).mono ?_; rintro e w ⟨rfl, rfl⟩)
  go_ret2
  exact ⟨rfl, rfl⟩
set_option maxHeartbeats 400000 in
theorem zz21 (h l : Int) (w : World) : Calls Try.prog 21 #[.agg #[.int .u64 h, .int .u64 l]] w fun e w' => e = .returned (.tuple #[.int .i64 0, .bool false]) ∧ w' = w.alloc (.cells #[.int .u64 h, .int .u64 l] 34) := by
  go_enter Try.func21, Try.ntmps21
  go_wp2_with (go_at_call 29; refine (asInt64_dec _ _).mono ?_; rintro e w1 ⟨rfl, rfl⟩)
  go_ret2
  exact ⟨rfl, rfl⟩

theorem wf_i32 {a : Int} (h : (Lit.int .i32 a).wf = true) : -2147483648 ≤ a ∧ a ≤ 2147483647 := by
  simp [Lit.wf, IntKind.min, IntKind.max, IntKind.signed, IntKind.bits] at h; omega

set_option maxHeartbeats 1000000 in
theorem lawC_walk (i j : Int) (f : Nat) (h l : Int) (wj : (Lit.int .i32 j).wf = true) (w : World) :
    Calls Try.prog 5 #[.int .i64 i, .int .i32 j, .float .f64 f, .int .u64 h, .int .u64 l] w fun e w' => e = .returned (.bool true) ∧ Grown w w' := by
  obtain ⟨j0, j1⟩ := wf_i32 wj
  go_enter Try.func5, Try.ntmps5
  go_wp2_with (first
      | (go_at_call 14; refine (zz14 _ _).mono ?_; rintro e w1 ⟨rfl, rfl⟩)
      | (go_at_call 15; refine (zz15 _ _).mono ?_; rintro e w1 ⟨rfl, rfl⟩)
      | (go_at_call 16; refine (zz16 _ _).mono ?_; rintro e w1 ⟨rfl, rfl⟩)
      | (go_at_call 17; refine (zz17 _ _ _).mono ?_; rintro e w1 ⟨rfl, rfl⟩)
      | (go_at_call 18; refine (zz18 _ _).mono ?_; rintro e w1 ⟨rfl, rfl⟩)
      | (go_at_call 19; refine (zz19 _ _ j0 j1).mono ?_; rintro e w1 ⟨rfl, rfl⟩)
      | (go_at_call 20; refine (zz20 _ _).mono ?_; rintro e w1 ⟨rfl, rfl⟩)
      | (go_at_call 21; refine (zz21 _ _ _).mono ?_; rintro e w1 ⟨rfl, rfl⟩))
  go_ret
  exact ⟨rfl, (((Grown.refl _).alloc _ _).alloc _ _).alloc _ _⟩
end Go.Proofs.Qxb6616542a
