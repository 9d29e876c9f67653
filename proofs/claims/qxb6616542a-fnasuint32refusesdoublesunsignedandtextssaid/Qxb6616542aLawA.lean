import Derived.Test.Qxb6616542aInt
import Derived.WalkKit
import Derived.WalkLawsBesides
namespace Go.Proofs.Qxb6616542a
open Go.RowKit
set_option linter.unusedVariables false

set_option maxHeartbeats 400000 in
theorem asUint32_in (i : Int) (w : World) (h0 : 0 ≤ i) (h1 : i ≤ 4294967295) : Calls Try.prog 27 #[.iface 2 (.int .i64 i)] w fun e w' => e = .returned (.tuple #[.int .u32 i, .bool true]) ∧ w' = w := by
  go_enter Try.func27, Try.ntmps27
  go_wp2_with (go_at_call 29; refine (asInt64_i64 _ _).mono ?_; rintro e w ⟨rfl, rfl⟩)
  go_ret2
  exact ⟨rfl, rfl⟩
set_option maxHeartbeats 400000 in
theorem asUint32_out (i : Int) (w : World) (h : i < 0 ∨ 4294967295 < i) : Calls Try.prog 27 #[.iface 2 (.int .i64 i)] w fun e w' => e = .returned (.tuple #[.int .u32 0, .bool false]) ∧ w' = w := by
  rcases h with h | h
  · go_enter Try.func27, Try.ntmps27
    go_wp2_with (go_at_call 29; refine (asInt64_i64 _ _).mono ?_; rintro e w ⟨rfl, rfl⟩)
    go_ret2
    exact ⟨rfl, rfl⟩
  · go_enter Try.func27, Try.ntmps27
    go_wp2_with (go_at_call 29; refine (asInt64_i64 _ _).mono ?_; rintro e w ⟨rfl, rfl⟩)
    go_ret2
    exact ⟨rfl, rfl⟩
set_option maxHeartbeats 400000 in
theorem asUint32_in32 (i : Int) (w : World) (h0 : 0 ≤ i) (h1 : i ≤ 2147483647) : Calls Try.prog 27 #[.iface 21 (.int .i32 i)] w fun e w' => e = .returned (.tuple #[.int .u32 i, .bool true]) ∧ w' = w := by
  go_enter Try.func27, Try.ntmps27
  go_wp2_with (go_at_call 29; refine (asInt64_i32 _ _ (by omega) h1).mono ?_; rintro e w ⟨rfl, rfl⟩)
  go_ret2
  exact ⟨rfl, rfl⟩
set_option maxHeartbeats 400000 in
theorem asUint32_out32 (i : Int) (w : World) (h0 : -2147483648 ≤ i) (h : i < 0) : Calls Try.prog 27 #[.iface 21 (.int .i32 i)] w fun e w' => e = .returned (.tuple #[.int .u32 0, .bool false]) ∧ w' = w := by
  go_enter Try.func27, Try.ntmps27
  go_wp2_with (go_at_call 29; refine (asInt64_i32 _ _ h0 (by omega)).mono ?_; rintro e w ⟨rfl, rfl⟩)
  go_ret2
  exact ⟨rfl, rfl⟩
set_option maxHeartbeats 400000 in
theorem asUint32_str (s : Value) (w : World) : Calls Try.prog 27 #[.iface 9 s] w fun e w' => e = .returned (.tuple #[.int .u32 0, .bool false]) ∧ w' = w := by
  go_enter Try.func27, Try.ntmps27
  go_wp2_with (go_at_call 29; refine (asInt64_str _ _).mono ?_; rintro e w ⟨rfl, rfl⟩)
  go_ret2
  exact ⟨rfl, rfl⟩
set_option maxHeartbeats 400000 in
theorem asUint32_u32 (s : Value) (w : World) : Calls Try.prog 27 #[.iface 22 s] w fun e w' => e = .returned (.tuple #[.int .u32 0, .bool false]) ∧ w' = w := by
  go_enter Try.func27, Try.ntmps27
  go_wp2_with (go_at_call 29; refine (asInt64_u32 _ _).mono ?_; rintro e w ⟨rfl, rfl⟩)
  go_ret2
  exact ⟨rfl, rfl⟩
set_option maxHeartbeats 400000 in
theorem asUint32_f64 (s : Value) (w : World) : Calls Try.prog 27 #[.iface 29 s] w fun e w' => e = .returned (.tuple #[.int .u32 0, .bool false]) ∧ w' = w := by
  go_enter Try.func27, Try.ntmps27
  go_wp2_with (go_at_call 29; refine (asInt64_f64 _ _).mono ?_; rintro e w ⟨rfl, rfl⟩)
  go_ret2
  exact ⟨rfl, rfl⟩

set_option maxHeartbeats 400000 in
theorem zz8_in (i : Int) (w : World) (h0 : 0 ≤ i) (h1 : i ≤ 4294967295) : Calls Try.prog 8 #[.int .i64 i] w fun e w' => e = .returned (.tuple #[.int .u32 i, .bool true]) ∧ w' = w := by
  go_enter Try.func8, Try.ntmps8
  go_wp2_with (go_at_call 27; refine (asUint32_in _ _ h0 h1).mono ?_; rintro e w ⟨rfl, rfl⟩)
  go_ret2
  exact ⟨rfl, rfl⟩
set_option maxHeartbeats 400000 in
theorem zz8_out (i : Int) (w : World) (h : i < 0 ∨ 4294967295 < i) : Calls Try.prog 8 #[.int .i64 i] w fun e w' => e = .returned (.tuple #[.int .u32 0, .bool false]) ∧ w' = w := by
  go_enter Try.func8, Try.ntmps8
  go_wp2_with (go_at_call 27; refine (asUint32_out _ _ h).mono ?_; rintro e w ⟨rfl, rfl⟩)
  go_ret2
  exact ⟨rfl, rfl⟩
set_option maxHeartbeats 400000 in
theorem zz9_in (i : Int) (w : World) (h0 : 0 ≤ i) (h1 : i ≤ 2147483647) : Calls Try.prog 9 #[.int .i32 i] w fun e w' => e = .returned (.tuple #[.int .u32 i, .bool true]) ∧ w' = w := by
  go_enter Try.func9, Try.ntmps9
  go_wp2_with (go_at_call 27; refine (asUint32_in32 _ _ h0 h1).mono ?_; rintro e w ⟨rfl, rfl⟩)
  go_ret2
  exact ⟨rfl, rfl⟩
set_option maxHeartbeats 400000 in
theorem zz9_out (i : Int) (w : World) (h0 : -2147483648 ≤ i) (h : i < 0) : Calls Try.prog 9 #[.int .i32 i] w fun e w' => e = .returned (.tuple #[.int .u32 0, .bool false]) ∧ w' = w := by
  go_enter Try.func9, Try.ntmps9
  go_wp2_with (go_at_call 27; refine (asUint32_out32 _ _ h0 h).mono ?_; rintro e w ⟨rfl, rfl⟩)
  go_ret2
  exact ⟨rfl, rfl⟩

theorem wf_i64 {a : Int} (h : (Lit.int .i64 a).wf = true) : -9223372036854775808 ≤ a ∧ a ≤ 9223372036854775807 := by
  simp [Lit.wf, IntKind.min, IntKind.max, IntKind.signed, IntKind.bits] at h; omega

set_option maxHeartbeats 1000000 in
theorem lawA_walk (a0 : Int) (w0 : (Lit.int .i64 a0).wf = true) (w : World) :
    Calls Try.prog 3 #[.int .i64 a0] w fun e w' => e = .returned (.bool true) ∧ Grown w w' := by
  obtain ⟨l0, l1⟩ := wf_i64 w0
  by_cases h0 : a0 < 0
  · by_cases h1 : -2147483648 ≤ a0
    · go_enter Try.func3, Try.ntmps3
      go_wp2_with (first | (go_at_call 8; refine (zz8_out _ _ (.inl h0)).mono ?_; rintro e w ⟨rfl, rfl⟩) | (go_at_call 9; refine (zz9_out _ _ h1 h0).mono ?_; rintro e w ⟨rfl, rfl⟩))
      go_ret
      exact ⟨rfl, Grown.refl _⟩
    · go_enter Try.func3, Try.ntmps3
      go_wp2_with (first | (go_at_call 8; refine (zz8_out _ _ (.inl h0)).mono ?_; rintro e w ⟨rfl, rfl⟩))
      go_ret
      exact ⟨rfl, Grown.refl _⟩
  · by_cases h2 : a0 ≤ 4294967295
    · by_cases h1 : a0 ≤ 2147483647
      · go_enter Try.func3, Try.ntmps3
        go_wp2_with (first | (go_at_call 8; refine (zz8_in _ _ (by omega) (by omega)).mono ?_; rintro e w ⟨rfl, rfl⟩) | (go_at_call 9; refine (zz9_in _ _ (by omega) h1).mono ?_; rintro e w ⟨rfl, rfl⟩))
        go_ret
        exact ⟨rfl, Grown.refl _⟩
      · go_enter Try.func3, Try.ntmps3
        go_wp2_with (first | (go_at_call 8; refine (zz8_in _ _ (by omega) (by omega)).mono ?_; rintro e w ⟨rfl, rfl⟩))
        go_ret
        exact ⟨rfl, Grown.refl _⟩
    · go_enter Try.func3, Try.ntmps3
      go_wp2_with (first | (go_at_call 8; refine (zz8_out _ _ (.inr (by omega))).mono ?_; rintro e w ⟨rfl, rfl⟩))
      go_ret
      exact ⟨rfl, Grown.refl _⟩
end Go.Proofs.Qxb6616542a
