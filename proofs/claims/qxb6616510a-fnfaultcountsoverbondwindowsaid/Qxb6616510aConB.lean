import Derived.Test.Qxb6616510aCon
import Derived.Test.Qxb6616510aCnt
import Derived.WalkKit
namespace Go.Proofs.Qxb6616510a
open Go.RowKit
set_option linter.unusedVariables false
theorem ret_i64 {a b : Int} (h : a = b) : Ending.returned (.int .i64 a) = .returned (.int .i64 b) := by rw [h]

set_option maxHeartbeats 400000 in
theorem min_any (a b : Int) (w : World) : Calls Try.prog 10 #[.int .i64 a, .int .i64 b] w fun e w' => e = .returned (.int .i64 (Cnt.mn a b)) ∧ w' = w := by
  by_cases h : a < b
  · go_enter Try.func10, Try.ntmps10
    go_wp2
    go_ret
    exact ⟨ret_i64 (by unfold Cnt.mn; omega), rfl⟩
  · go_enter Try.func10, Try.ntmps10
    go_wp2
    go_ret
    exact ⟨ret_i64 (by unfold Cnt.mn; omega), rfl⟩

set_option maxHeartbeats 400000 in
theorem max_any (a b : Int) (w : World) : Calls Try.prog 12 #[.int .i64 a, .int .i64 b] w fun e w' => e = .returned (.int .i64 (Cnt.mx a b)) ∧ w' = w := by
  by_cases h : b < a
  · go_enter Try.func12, Try.ntmps12
    go_wp2
    go_ret
    exact ⟨ret_i64 (by unfold Cnt.mx; omega), rfl⟩
  · go_enter Try.func12, Try.ntmps12
    go_wp2
    go_ret
    exact ⟨ret_i64 (by unfold Cnt.mx; omega), rfl⟩

set_option maxHeartbeats 400000 in
theorem span_any (a b : Int) (w : World) (ha : -9223372036854775808 ≤ a) (hb : b ≤ 9223372036854775807) (hd : b - a ≤ 65536) : Calls Try.prog 9 #[.int .i64 a, .int .i64 b] w fun e w' => e = .returned (.int .i64 (Cnt.span a b)) ∧ w' = w := by
  by_cases h : b < a
  · go_enter Try.func9, Try.ntmps9
    go_wp2
    go_ret
    exact ⟨ret_i64 (by unfold Cnt.span; omega), rfl⟩
  · go_enter Try.func9, Try.ntmps9
    go_wp2
    go_ret
    exact ⟨ret_i64 (by unfold Cnt.span; omega), rfl⟩

theorem td_facts (x : Int) : x = 10 * x.tdiv 10 + x.tmod 10 ∧ -10 < x.tmod 10 ∧ x.tmod 10 < 10 := by
  refine ⟨(Int.mul_tdiv_add_tmod x 10).symm, ?_, Int.tmod_lt_of_pos x (by decide)⟩
  have h := Int.tmod_lt_of_pos (-x) (show (0 : Int) < 10 by decide)
  rw [Int.neg_tmod] at h
  omega

set_option maxHeartbeats 400000 in
theorem floor_any (x : Int) (w : World) (h0 : -9223372036854775808 ≤ x) (h1 : x ≤ 9223372036854775807) : Calls Try.prog 14 #[.int .i64 x] w fun e w' => e = .returned (.int .i64 (x / 10)) ∧ w' = w := by
  have htd : Hid (x = 10 * x.tdiv 10 + x.tmod 10 ∧ -10 < x.tmod 10 ∧ x.tmod 10 < 10) := td_facts x
  go_enter Try.func14, Try.ntmps14
  go_wp2
  all_goals
    go_ret
    refine ⟨ret_i64 ?_, rfl⟩
    obtain ⟨e1, e2, e3⟩ := htd.out
    (try unfold wrap64)
    omega

set_option maxHeartbeats 400000 in
theorem ceil_any (x : Int) (w : World) (h0 : -9223372036854775808 ≤ x) (h1 : x ≤ 9223372036854775807) : Calls Try.prog 15 #[.int .i64 x] w fun e w' => e = .returned (.int .i64 ((x + 9) / 10)) ∧ w' = w := by
  have htd : Hid (x = 10 * x.tdiv 10 + x.tmod 10 ∧ -10 < x.tmod 10 ∧ x.tmod 10 < 10) := td_facts x
  go_enter Try.func15, Try.ntmps15
  go_wp2
  all_goals
    go_ret
    refine ⟨ret_i64 ?_, rfl⟩
    obtain ⟨e1, e2, e3⟩ := htd.out
    (try unfold wrap64)
    omega

set_option maxHeartbeats 400000 in
theorem tens_any (a b : Int) (w : World) (ha : -9223372036854775808 ≤ a) (ha' : a ≤ 9223372036854775807) (hb : b ≤ 9223372036854775807) (hb' : -9223372036854775808 ≤ b) (hd : b - a ≤ 65536) : Calls Try.prog 11 #[.int .i64 a, .int .i64 b] w fun e w' => e = .returned (.int .i64 (Cnt.tens a b)) ∧ w' = w := by
  by_cases h : b < a
  · go_enter Try.func11, Try.ntmps11
    go_wp2
    go_ret
    exact ⟨ret_i64 (by unfold Cnt.tens; omega), rfl⟩
  · go_enter Try.func11, Try.ntmps11
    go_wp2_with (first | (go_at_call 14; refine (floor_any _ _ hb' hb).mono ?_; rintro e w' ⟨rfl, rfl⟩) | (go_at_call 15; refine (ceil_any _ _ ha ha').mono ?_; rintro e w' ⟨rfl, rfl⟩))
    go_ret
    exact ⟨ret_i64 (by unfold Cnt.tens; omega), rfl⟩

set_option maxHeartbeats 400000 in
theorem bytes8_any (a0 a1 a2 a3 a4 : ByteArray) (b c : Int) (w0 : a0.size ≤ maxLen) (w1 : a1.size ≤ maxLen) (w2 : a2.size ≤ maxLen) (w3 : a3.size ≤ maxLen) (w4 : a4.size ≤ maxLen) (w : World) :
    Calls Try.prog 8 #[.string a0, .string a1, .string a2, .string a3, .string a4, .int .i64 b, .int .i64 c] w fun e w' => e = .returned (.bool (decide (a0.size + a1.size + a2.size + a3.size + a4.size ≤ 1048576))) ∧ w' = w := by
  unfold maxLen at *
  by_cases ht : a0.size + a1.size + a2.size + a3.size + a4.size ≤ 1048576
  · rw [decide_eq_true ht]
    go_enter Try.func8, Try.ntmps8
    go_wp2
    go_ret
    exact ⟨rfl, rfl⟩
  · rw [decide_eq_false ht]
    go_enter Try.func8, Try.ntmps8
    go_wp2
    all_goals first | omega | (go_ret; exact ⟨rfl, rfl⟩)

theorem bytes8_yes (a0 a1 a2 a3 a4 : ByteArray) (b c : Int) (ht : a0.size + a1.size + a2.size + a3.size + a4.size ≤ 1048576) (w : World) :
    Calls Try.prog 8 #[.string a0, .string a1, .string a2, .string a3, .string a4, .int .i64 b, .int .i64 c] w fun e w' => e = .returned (.bool true) ∧ w' = w := by
  have h := bytes8_any a0 a1 a2 a3 a4 b c (by unfold maxLen; omega) (by unfold maxLen; omega) (by unfold maxLen; omega) (by unfold maxLen; omega) (by unfold maxLen; omega) w
  rwa [decide_eq_true ht] at h
theorem bytes8_no (a0 a1 a2 a3 a4 : ByteArray) (b c : Int) (w0 : a0.size ≤ maxLen) (w1 : a1.size ≤ maxLen) (w2 : a2.size ≤ maxLen) (w3 : a3.size ≤ maxLen) (w4 : a4.size ≤ maxLen) (ht : ¬ a0.size + a1.size + a2.size + a3.size + a4.size ≤ 1048576) (w : World) :
    Calls Try.prog 8 #[.string a0, .string a1, .string a2, .string a3, .string a4, .int .i64 b, .int .i64 c] w fun e w' => e = .returned (.bool false) ∧ w' = w := by
  have h := bytes8_any a0 a1 a2 a3 a4 b c w0 w1 w2 w3 w4 w
  rwa [decide_eq_false ht] at h

theorem zzfault_at (a h i k s : ByteArray) (b : Int) (r : ByteArray) (hr : faultOf k s b = r) (w : World) :
    Calls Try.prog 6 #[.agg #[.string a, .string h, .string i, .string k, .string s, .int .i64 b]] w fun e w' => e = .returned (.string r) ∧ Grown w w' := by
  subst hr; exact zzfault_any a h i k s b w

end Go.Proofs.Qxb6616510a
