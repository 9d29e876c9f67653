import Derived.Test.Qxb6616510aRows
import Derived.WalkKit
namespace Go.Proofs.Qxb6616510a
open Go.RowKit
set_option linter.unusedVariables false

theorem gtrans {a b c : World} (h1 : Grown a b) (h2 : Grown b c) : Grown a c :=
  ⟨World.keptBut_trans h1.1 h2.1, fun x => (h2.2.1 x).trans (h1.2.1 x), Nat.le_trans h1.2.2 h2.2.2⟩


/-- the fault, as Go has it -/
def faultOf (k s : ByteArray) (b : Int) : ByteArray :=
  if (!s.toList == [110, 111, 114, 109, 97, 108]) = true then { data := #[97, 99, 99, 111, 117, 110, 116, 45, 115, 116, 97, 116, 117, 115] }
  else if (k.toList == [117, 110, 100, 101, 114, 119, 114, 105, 116, 101, 114, 45, 111, 119, 110]) = true then { data := #[117, 110, 100, 101, 114, 119, 114, 105, 116, 101, 114, 45, 111, 119, 110] }
  else if b < 10 then { data := #[98, 101, 108, 111, 119, 45, 109, 105, 110, 105, 109, 117, 109] }
  else if (b % 10 != 0) = true then { data := #[110, 111, 116, 45, 105, 110, 45, 117, 110, 105, 116, 115] }
  else if 10000 < b then { data := #[97, 98, 111, 118, 101, 45, 99, 97, 112] }
  else { data := #[] }

theorem ret_str {a b : ByteArray} (h : a = b) : Ending.returned (.string a) = .returned (.string b) := by rw [h]

theorem f1 (k s : ByteArray) (b : Int) (h1 : (!s.toList == [110, 111, 114, 109, 97, 108]) = true) : faultOf k s b = { data := #[97, 99, 99, 111, 117, 110, 116, 45, 115, 116, 97, 116, 117, 115] } := by
  unfold faultOf; rw [if_pos h1]
theorem f2 (k s : ByteArray) (b : Int) (h1 : (!s.toList == [110, 111, 114, 109, 97, 108]) = false) (h2 : (k.toList == [117, 110, 100, 101, 114, 119, 114, 105, 116, 101, 114, 45, 111, 119, 110]) = true) : faultOf k s b = { data := #[117, 110, 100, 101, 114, 119, 114, 105, 116, 101, 114, 45, 111, 119, 110] } := by
  unfold faultOf; rw [if_neg (by simp [h1]), if_pos h2]
theorem f3 (k s : ByteArray) (b : Int) (h1 : (!s.toList == [110, 111, 114, 109, 97, 108]) = false) (h2 : (k.toList == [117, 110, 100, 101, 114, 119, 114, 105, 116, 101, 114, 45, 111, 119, 110]) = false) (h3 : b < 10) : faultOf k s b = { data := #[98, 101, 108, 111, 119, 45, 109, 105, 110, 105, 109, 117, 109] } := by
  unfold faultOf; rw [if_neg (by simp [h1]), if_neg (by simp [h2]), if_pos h3]
theorem f4 (k s : ByteArray) (b : Int) (h1 : (!s.toList == [110, 111, 114, 109, 97, 108]) = false) (h2 : (k.toList == [117, 110, 100, 101, 114, 119, 114, 105, 116, 101, 114, 45, 111, 119, 110]) = false) (h3 : 10 ≤ b) (h4 : (b % 10 != 0) = true) : faultOf k s b = { data := #[110, 111, 116, 45, 105, 110, 45, 117, 110, 105, 116, 115] } := by
  unfold faultOf; rw [if_neg (by simp [h1]), if_neg (by simp [h2]), if_neg (by omega), if_pos h4]
theorem f5 (k s : ByteArray) (b : Int) (h1 : (!s.toList == [110, 111, 114, 109, 97, 108]) = false) (h2 : (k.toList == [117, 110, 100, 101, 114, 119, 114, 105, 116, 101, 114, 45, 111, 119, 110]) = false) (h3 : 10 ≤ b) (h4 : (b % 10 != 0) = false) (h5 : 10000 < b) : faultOf k s b = { data := #[97, 98, 111, 118, 101, 45, 99, 97, 112] } := by
  unfold faultOf; rw [if_neg (by simp [h1]), if_neg (by simp [h2]), if_neg (by omega), if_neg (by simp [h4]), if_pos h5]
theorem f6 (k s : ByteArray) (b : Int) (h1 : (!s.toList == [110, 111, 114, 109, 97, 108]) = false) (h2 : (k.toList == [117, 110, 100, 101, 114, 119, 114, 105, 116, 101, 114, 45, 111, 119, 110]) = false) (h3 : 10 ≤ b) (h4 : (b % 10 != 0) = false) (h5 : b ≤ 10000) : faultOf k s b = { data := #[] } := by
  unfold faultOf; rw [if_neg (by simp [h1]), if_neg (by simp [h2]), if_neg (by omega), if_neg (by simp [h4]), if_neg (by omega)]

set_option maxHeartbeats 400000 in
theorem fault_any (a h i k s : ByteArray) (b : Int) (w : World) :
    Calls Try.prog 13 #[.agg #[.string a, .string h, .string i, .string k, .string s, .int .i64 b]] w fun e w' => e = .returned (.string (faultOf k s b)) ∧ Grown w w' := by
  go_enter Try.func13, Try.ntmps13
  go_wp2
  all_goals
    go_ret
    refine ⟨ret_str ?_, (Grown.refl _).alloc _ _⟩
    first
    | exact (f1 k s b ‹_›).symm
    | exact (f2 k s b ‹_› ‹_›).symm
    | exact (f3 k s b ‹_› ‹_› ‹_›).symm
    | exact (f4 k s b ‹_› ‹_› ‹_› ‹_›).symm
    | exact (f5 k s b ‹_› ‹_› ‹_› ‹_› ‹_›).symm
    | exact (f6 k s b ‹_› ‹_› ‹_› ‹_› ‹_›).symm

set_option maxHeartbeats 400000 in
theorem sub_any (a h i k s : ByteArray) (b : Int) (w : World) :
    Calls Try.prog 7 #[.string a, .string h, .string i, .string k, .string s, .int .i64 b] w fun e w' => e = .returned (.agg #[.string a, .string h, .string i, .string k, .string s, .int .i64 b]) ∧ Grown w w' := by
  go_enter Try.func7, Try.ntmps7
  go_wp2
  exact bodyPost_ret (v := .agg #[.string a, .string h, .string i, .string k, .string s, .int .i64 b]) (by simp [results, Try.results7, go_sem]) rfl ⟨rfl, (Grown.refl _).alloc _ _⟩

set_option maxHeartbeats 400000 in
theorem zzfault_any (a h i k s : ByteArray) (b : Int) (w : World) :
    Calls Try.prog 6 #[.agg #[.string a, .string h, .string i, .string k, .string s, .int .i64 b]] w fun e w' => e = .returned (.string (faultOf k s b)) ∧ Grown w w' := by
  go_enter Try.func6, Try.ntmps6
  go_wp2_with (go_at_call 13; refine (fault_any _ _ _ _ _ _ _).mono ?_; rintro e w' ⟨rfl, hg⟩)
  go_ret
  exact ⟨rfl, gtrans ((Grown.refl _).alloc _ _) (by assumption)⟩

set_option maxHeartbeats 400000 in
theorem bytes5_any (a0 a1 a2 a3 a4 a6 a7 a8 a9 : ByteArray) (b : Int) (w0 : a0.size ≤ maxLen) (w1 : a1.size ≤ maxLen) (w2 : a2.size ≤ maxLen) (w3 : a3.size ≤ maxLen) (w4 : a4.size ≤ maxLen) (w6 : a6.size ≤ maxLen) (w7 : a7.size ≤ maxLen) (w8 : a8.size ≤ maxLen) (w9 : a9.size ≤ maxLen) (w : World) :
    Calls Try.prog 5 #[.string a0, .string a1, .string a2, .string a3, .string a4, .int .i64 b, .string a6, .string a7, .string a8, .string a9] w fun e w' => e = .returned (.bool (decide (a0.size + a1.size + a2.size + a3.size + a4.size + a6.size + a7.size + a8.size + a9.size ≤ 1048576))) ∧ w' = w := by
  unfold maxLen at *
  by_cases ht : a0.size + a1.size + a2.size + a3.size + a4.size + a6.size + a7.size + a8.size + a9.size ≤ 1048576
  · rw [decide_eq_true ht]
    go_enter Try.func5, Try.ntmps5
    go_wp2
    go_ret
    exact ⟨rfl, rfl⟩
  · rw [decide_eq_false ht]
    go_enter Try.func5, Try.ntmps5
    go_wp2
    all_goals first | omega | (go_ret; exact ⟨rfl, rfl⟩)

end Go.Proofs.Qxb6616510a
