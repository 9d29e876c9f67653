import Derived.Test.Qxb6616926aNew
import Derived.WalkKit
import Derived.WalkSpells
import Derived.WalkLawsBesides
namespace Go.Proofs.Qxb6616926a
open Go.RowKit
set_option linter.unusedVariables false

theorem ret_bool {a b : Bool} (h : a = b) : Ending.returned (.bool a) = .returned (.bool b) := by rw [h]
theorem ret_i64 {a b : Int} (h : a = b) : Ending.returned (.int .i64 a) = .returned (.int .i64 b) := by rw [h]
theorem wrap_a : wrap64 9223372036854775808 = -9223372036854775808 := by unfold wrap64; omega
theorem wrap_b : wrap64 (- -9223372036854775808) = -9223372036854775808 := by unfold wrap64; omega

set_option maxHeartbeats 400000 in
theorem isInt_zero (b : Nat) (w : World) (k1 : w.cell? ⟨b, 1, none⟩ = some (.slice none 0 0)) : Calls Try.prog 10 #[.pointer (some ⟨b, 0, none⟩)] w fun e w' => e = .returned (.bool true) ∧ w' = w := by
  go_enter Try.func10, Try.ntmps10
  go_wp2_with (go_at_call 22; refine (low_zero _).mono ?_; rintro e w1 ⟨rfl, rfl⟩)
  go_ret
  exact ⟨rfl, rfl⟩
set_option maxHeartbeats 400000 in
theorem isInt_small (b b2 cap : Nat) (m : Int) (w : World) (k1 : w.cell? ⟨b, 1, none⟩ = some (.slice (some ⟨b2, 0, none⟩) 1 cap)) (k2 : w.cell? ⟨b2, 0, none⟩ = some (.int .u64 m)) (m0 : 0 ≤ m) (m1 : m ≤ 9223372036854775807) :
    Calls Try.prog 10 #[.pointer (some ⟨b, 0, none⟩)] w fun e w' => e = .returned (.bool true) ∧ w' = w := by
  go_enter Try.func10, Try.ntmps10
  go_wp2_with (go_at_call 22; refine (low_one b2 cap m _ k2).mono ?_; rintro e w1 ⟨rfl, rfl⟩)
  go_ret
  exact ⟨rfl, rfl⟩
set_option maxHeartbeats 400000 in
theorem isInt_min (b b2 cap : Nat) (w : World) (k0 : w.cell? ⟨b, 0, none⟩ = some (.bool true)) (k1 : w.cell? ⟨b, 1, none⟩ = some (.slice (some ⟨b2, 0, none⟩) 1 cap)) (k2 : w.cell? ⟨b2, 0, none⟩ = some (.int .u64 9223372036854775808)) :
    Calls Try.prog 10 #[.pointer (some ⟨b, 0, none⟩)] w fun e w' => e = .returned (.bool true) ∧ w' = w := by
  go_enter Try.func10, Try.ntmps10
  go_wp2_with (go_at_call 22; refine (low_one b2 cap _ _ k2).mono ?_; rintro e w1 ⟨rfl, rfl⟩)
  all_goals (go_ret; first | exact ⟨rfl, rfl⟩ | exact ⟨ret_bool (by rw [wrap_a, wrap_b]; simp), rfl⟩)

set_option maxHeartbeats 400000 in
theorem int64_zero (b : Nat) (w : World) (k0 : w.cell? ⟨b, 0, none⟩ = some (.bool false)) (k1 : w.cell? ⟨b, 1, none⟩ = some (.slice none 0 0)) : Calls Try.prog 11 #[.pointer (some ⟨b, 0, none⟩)] w fun e w' => e = .returned (.int .i64 0) ∧ w' = w := by
  go_enter Try.func11, Try.ntmps11
  go_wp2_with (go_at_call 22; refine (low_zero _).mono ?_; rintro e w1 ⟨rfl, rfl⟩)
  go_ret
  exact ⟨rfl, rfl⟩
set_option maxHeartbeats 400000 in
theorem int64_pos (b b2 cap : Nat) (m : Int) (w : World) (k0 : w.cell? ⟨b, 0, none⟩ = some (.bool false)) (k1 : w.cell? ⟨b, 1, none⟩ = some (.slice (some ⟨b2, 0, none⟩) 1 cap)) (k2 : w.cell? ⟨b2, 0, none⟩ = some (.int .u64 m)) (m0 : 0 ≤ m) (m1 : m ≤ 9223372036854775807) :
    Calls Try.prog 11 #[.pointer (some ⟨b, 0, none⟩)] w fun e w' => e = .returned (.int .i64 m) ∧ w' = w := by
  go_enter Try.func11, Try.ntmps11
  go_wp2_with (go_at_call 22; refine (low_one b2 cap m _ k2).mono ?_; rintro e w1 ⟨rfl, rfl⟩)
  go_ret
  exact ⟨rfl, rfl⟩
set_option maxHeartbeats 400000 in
theorem int64_neg (b b2 cap : Nat) (m : Int) (w : World) (k0 : w.cell? ⟨b, 0, none⟩ = some (.bool true)) (k1 : w.cell? ⟨b, 1, none⟩ = some (.slice (some ⟨b2, 0, none⟩) 1 cap)) (k2 : w.cell? ⟨b2, 0, none⟩ = some (.int .u64 m)) (m0 : 0 ≤ m) (m1 : m ≤ 9223372036854775807) :
    Calls Try.prog 11 #[.pointer (some ⟨b, 0, none⟩)] w fun e w' => e = .returned (.int .i64 (-m)) ∧ w' = w := by
  go_enter Try.func11, Try.ntmps11
  go_wp2_with (go_at_call 22; refine (low_one b2 cap m _ k2).mono ?_; rintro e w1 ⟨rfl, rfl⟩)
  go_ret
  exact ⟨rfl, rfl⟩
set_option maxHeartbeats 400000 in
theorem int64_min (b b2 cap : Nat) (w : World) (k0 : w.cell? ⟨b, 0, none⟩ = some (.bool true)) (k1 : w.cell? ⟨b, 1, none⟩ = some (.slice (some ⟨b2, 0, none⟩) 1 cap)) (k2 : w.cell? ⟨b2, 0, none⟩ = some (.int .u64 9223372036854775808)) :
    Calls Try.prog 11 #[.pointer (some ⟨b, 0, none⟩)] w fun e w' => e = .returned (.int .i64 (-9223372036854775808)) ∧ w' = w := by
  go_enter Try.func11, Try.ntmps11
  go_wp2_with (go_at_call 22; refine (low_one b2 cap _ _ k2).mono ?_; rintro e w1 ⟨rfl, rfl⟩)
  go_ret
  exact ⟨ret_i64 (by rw [wrap_a, wrap_b]), rfl⟩

theorem mag_facts (c : Int) (h0 : -9223372036854775808 ≤ c) (h1 : c ≤ 9223372036854775807) (hc : c ≠ 0) :
    (sgn c = false ∧ mag c = c ∧ 0 < c) ∨ (sgn c = true ∧ mag c = -c ∧ -c ≤ 9223372036854775807 ∧ 0 < -c) ∨ (sgn c = true ∧ mag c = 9223372036854775808 ∧ c = -9223372036854775808) := by
  by_cases hn : c < 0
  · have e1 : sgn c = true := by unfold sgn; exact decide_eq_true hn
    have e2 : mag c = -c := by unfold mag; rw [if_pos hn]
    by_cases hm : c = -9223372036854775808
    · exact .inr (.inr ⟨e1, by rw [e2, hm]; rfl, hm⟩)
    · exact .inr (.inl ⟨e1, e2, by omega, by omega⟩)
  · exact .inl ⟨by unfold sgn; exact decide_eq_false hn, by unfold mag; rw [if_neg hn], by omega⟩

theorem isInt_any (base b : Nat) (c : Int) (w : World) (h : IntAt base w b c) (h0 : -9223372036854775808 ≤ c) (h1 : c ≤ 9223372036854775807) :
    Calls Try.prog 10 #[.pointer (some ⟨b, 0, none⟩)] w fun e w' => e = .returned (.bool true) ∧ w' = w := by
  obtain ⟨-, k0, ⟨rfl, k1⟩ | ⟨hc, b2, -, k1, k2⟩⟩ := h.cells
  · exact isInt_zero b w k1
  · rcases mag_facts c h0 h1 hc with ⟨e1, e2, e3⟩ | ⟨e1, e2, e3, e4⟩ | ⟨e1, e2, e3⟩
    · rw [e2] at k2; exact isInt_small b b2 1 c w k1 k2 (by omega) h1
    · rw [e2] at k2; exact isInt_small b b2 1 (-c) w k1 k2 (by omega) e3
    · rw [e2] at k2; rw [e1] at k0; exact isInt_min b b2 1 w k0 k1 k2

theorem int64_any (base b : Nat) (c : Int) (w : World) (h : IntAt base w b c) (h0 : -9223372036854775808 ≤ c) (h1 : c ≤ 9223372036854775807) :
    Calls Try.prog 11 #[.pointer (some ⟨b, 0, none⟩)] w fun e w' => e = .returned (.int .i64 c) ∧ w' = w := by
  obtain ⟨-, k0, ⟨rfl, k1⟩ | ⟨hc, b2, -, k1, k2⟩⟩ := h.cells
  · exact int64_zero b w k0 k1
  · rcases mag_facts c h0 h1 hc with ⟨e1, e2, e3⟩ | ⟨e1, e2, e3, e4⟩ | ⟨e1, e2, e3⟩
    · rw [e2] at k2; rw [e1] at k0; exact int64_pos b b2 1 c w k0 k1 k2 (by omega) h1
    · rw [e2] at k2; rw [e1] at k0
      have := int64_neg b b2 1 (-c) w k0 k1 k2 (by omega) e3
      rwa [Int.neg_neg] at this
    · rw [e2] at k2; rw [e1] at k0; rw [e3]; exact int64_min b b2 1 w k0 k1 k2

set_option maxHeartbeats 400000 in
theorem exp_any (p : Value) (x : Int) (w : World) : Calls Try.prog 12 #[.agg #[p, .int .i32 x]] w fun e w' => e = .returned (.int .i32 x) ∧ w' = w.alloc (.cells #[p, .int .i32 x] 24) := by
  go_enter Try.func12, Try.ntmps12
  go_wp2
  go_ret
  exact ⟨rfl, rfl⟩
end Go.Proofs.Qxb6616926a
