import Derived.Test.Qxb6616542aLawA
import Derived.WalkKit
import Derived.WalkLawsBesides
namespace Go.Proofs.Qxb6616542a
open Go.RowKit
set_option linter.unusedVariables false

set_option maxHeartbeats 400000 in
theorem zz11_any (f : Value) (w : World) : Calls Try.prog 11 #[f] w fun e w' => e = .returned (.tuple #[.int .u32 0, .bool false]) ∧ w' = w := by
  go_enter Try.func11, Try.ntmps11
  go_wp2_with (go_at_call 27; refine (asUint32_f64 _ _).mono ?_; rintro e w ⟨rfl, rfl⟩)
  go_ret2
  exact ⟨rfl, rfl⟩
set_option maxHeartbeats 400000 in
theorem zz12_any (u : Value) (w : World) : Calls Try.prog 12 #[u] w fun e w' => e = .returned (.tuple #[.int .u32 0, .bool false]) ∧ w' = w := by
  go_enter Try.func12, Try.ntmps12
  go_wp2_with (go_at_call 27; refine (asUint32_u32 _ _).mono ?_; rintro e w ⟨rfl, rfl⟩)
  go_ret2
  exact ⟨rfl, rfl⟩
set_option maxHeartbeats 400000 in
theorem zz13_any (s : Value) (w : World) : Calls Try.prog 13 #[s] w fun e w' => e = .returned (.tuple #[.int .u32 0, .bool false]) ∧ w' = w := by
  go_enter Try.func13, Try.ntmps13
  go_wp2_with (go_at_call 27; refine (asUint32_str _ _).mono ?_; rintro e w ⟨rfl, rfl⟩)
  go_ret2
  exact ⟨rfl, rfl⟩
set_option maxHeartbeats 400000 in
theorem bytes10_yes (u : Value) (s : ByteArray) (w : World) (hs : s.size ≤ 1048576) : Calls Try.prog 10 #[u, .string s] w fun e w' => e = .returned (.bool true) ∧ w' = w := by
  go_enter Try.func10, Try.ntmps10
  go_wp2
  go_ret
  exact ⟨rfl, rfl⟩
set_option maxHeartbeats 400000 in
theorem bytes10_no (u : Value) (s : ByteArray) (w : World) (hs : 1048576 < s.size) (hm : s.size ≤ maxLen) : Calls Try.prog 10 #[u, .string s] w fun e w' => e = .returned (.bool false) ∧ w' = w := by
  unfold maxLen at hm
  go_enter Try.func10, Try.ntmps10
  go_wp2
  go_ret
  exact ⟨rfl, rfl⟩

theorem wf_u32 {a : Int} (h : (Lit.int .u32 a).wf = true) : 0 ≤ a ∧ a ≤ 4294967295 := by
  simp [Lit.wf, IntKind.min, IntKind.max, IntKind.signed, IntKind.bits] at h; omega

set_option maxHeartbeats 1000000 in
theorem lawB_walk (a0 : Int) (a1 : ByteArray) (w0 : (Lit.int .u32 a0).wf = true) (w1 : a1.size ≤ maxLen) (w : World) :
    Calls Try.prog 4 #[.int .u32 a0, .string a1] w fun e w' => e = .returned (.bool true) ∧ Grown w w' := by
  obtain ⟨l0, l1⟩ := wf_u32 w0
  by_cases hs : a1.size ≤ 1048576
  · go_enter Try.func4, Try.ntmps4
    go_wp2_with (first
      | (go_at_call 10; refine (bytes10_yes _ _ _ hs).mono ?_; rintro e w ⟨rfl, rfl⟩)
      | (go_at_call 8; refine (zz8_in _ _ l0 l1).mono ?_; rintro e w ⟨rfl, rfl⟩)
      | (go_at_call 11; refine (zz11_any _ _).mono ?_; rintro e w ⟨rfl, rfl⟩)
      | (go_at_call 12; refine (zz12_any _ _).mono ?_; rintro e w ⟨rfl, rfl⟩)
      | (go_at_call 13; refine (zz13_any _ _).mono ?_; rintro e w ⟨rfl, rfl⟩))
    go_ret
    exact ⟨rfl, Grown.refl _⟩
  · go_enter Try.func4, Try.ntmps4
    go_wp2_with (go_at_call 10; refine (bytes10_no _ _ _ (by omega) w1).mono ?_; rintro e w ⟨rfl, rfl⟩)
    go_ret
    exact ⟨rfl, Grown.refl _⟩
end Go.Proofs.Qxb6616542a
