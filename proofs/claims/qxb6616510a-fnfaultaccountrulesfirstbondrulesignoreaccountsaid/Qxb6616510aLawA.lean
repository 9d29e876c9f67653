import Derived.Test.Qxb6616510aCon
import Derived.WalkKit
namespace Go.Proofs.Qxb6616510a
open Go.RowKit
set_option linter.unusedVariables false
theorem bytes5_yes (a0 a1 a2 a3 a4 a6 a7 a8 a9 : ByteArray) (b : Int) (ht : a0.size + a1.size + a2.size + a3.size + a4.size + a6.size + a7.size + a8.size + a9.size ≤ 1048576) (w : World) :
    Calls Try.prog 5 #[.string a0, .string a1, .string a2, .string a3, .string a4, .int .i64 b, .string a6, .string a7, .string a8, .string a9] w fun e w' => e = .returned (.bool true) ∧ w' = w := by
  have h := bytes5_any a0 a1 a2 a3 a4 a6 a7 a8 a9 b (by unfold maxLen; omega) (by unfold maxLen; omega) (by unfold maxLen; omega) (by unfold maxLen; omega) (by unfold maxLen; omega) (by unfold maxLen; omega) (by unfold maxLen; omega) (by unfold maxLen; omega) (by unfold maxLen; omega) w
  rwa [decide_eq_true ht] at h
theorem bytes5_no (a0 a1 a2 a3 a4 a6 a7 a8 a9 : ByteArray) (b : Int) (w0 : a0.size ≤ maxLen) (w1 : a1.size ≤ maxLen) (w2 : a2.size ≤ maxLen) (w3 : a3.size ≤ maxLen) (w4 : a4.size ≤ maxLen) (w6 : a6.size ≤ maxLen) (w7 : a7.size ≤ maxLen) (w8 : a8.size ≤ maxLen) (w9 : a9.size ≤ maxLen) (ht : ¬ a0.size + a1.size + a2.size + a3.size + a4.size + a6.size + a7.size + a8.size + a9.size ≤ 1048576) (w : World) :
    Calls Try.prog 5 #[.string a0, .string a1, .string a2, .string a3, .string a4, .int .i64 b, .string a6, .string a7, .string a8, .string a9] w fun e w' => e = .returned (.bool false) ∧ w' = w := by
  have h := bytes5_any a0 a1 a2 a3 a4 a6 a7 a8 a9 b w0 w1 w2 w3 w4 w6 w7 w8 w9 w
  rwa [decide_eq_false ht] at h

/-- the two faults, named: the walk takes them as letters -/
theorem zzfault_is (a h i k s : ByteArray) (b : Int) (r : ByteArray) (hr : faultOf k s b = r) (w : World) :
    Calls Try.prog 6 #[.agg #[.string a, .string h, .string i, .string k, .string s, .int .i64 b]] w fun e w' => e = .returned (.string r) ∧ Grown w w' := by
  subst hr; exact zzfault_any a h i k s b w

theorem core_own (a0 a1 a2 a3 a4 a6 a7 a8 a9 : ByteArray) (a5 : Int) (ht : a0.size + a1.size + a2.size + a3.size + a4.size + a6.size + a7.size + a8.size + a9.size ≤ 1048576)
    (hk2 : (a9.toList == [117, 110, 100, 101, 114, 119, 114, 105, 116, 101, 114, 45, 111, 119, 110]) = true) (w : World) :
    Calls Try.prog 3 #[.string a0, .string a1, .string a2, .string a3, .string a4, .int .i64 a5, .string a6, .string a7, .string a8, .string a9] w fun e w' => e = .returned (.bool true) ∧ Grown w w' := by
  go_enter Try.func3, Try.ntmps3
  go_wp2_with (go_at_call 5; refine (bytes5_yes _ _ _ _ _ _ _ _ _ _ ht _).mono ?_; rintro e w' ⟨rfl, rfl⟩)
  go_ret
  exact ⟨rfl, Grown.refl _⟩

/-- the second one's fault: its status is normal, its kind another -/
theorem four (k s : ByteArray) (b : Int) (h1 : (!s.toList == [110, 111, 114, 109, 97, 108]) = false) (h2 : (k.toList == [117, 110, 100, 101, 114, 119, 114, 105, 116, 101, 114, 45, 111, 119, 110]) = false) :
    faultOf k s b = { data := #[98, 101, 108, 111, 119, 45, 109, 105, 110, 105, 109, 117, 109] } ∨ faultOf k s b = { data := #[110, 111, 116, 45, 105, 110, 45, 117, 110, 105, 116, 115] } ∨ faultOf k s b = { data := #[97, 98, 111, 118, 101, 45, 99, 97, 112] } ∨ faultOf k s b = { data := #[] } := by
  by_cases h3 : b < 10
  · exact .inl (f3 k s b h1 h2 h3)
  · cases h4 : (b % 10 != 0)
    · by_cases h5 : 10000 < b
      · exact .inr (.inr (.inl (f5 k s b h1 h2 (by omega) h4 h5)))
      · exact .inr (.inr (.inr (f6 k s b h1 h2 (by omega) h4 (by omega))))
    · exact .inr (.inl (f4 k s b h1 h2 (by omega) h4))
/-- with a normal status and another kind the fault hangs on the bonds alone -/
theorem same (k s k' s' : ByteArray) (b : Int) (h1 : (!s.toList == [110, 111, 114, 109, 97, 108]) = false) (h2 : (k.toList == [117, 110, 100, 101, 114, 119, 114, 105, 116, 101, 114, 45, 111, 119, 110]) = false)
    (h1' : (!s'.toList == [110, 111, 114, 109, 97, 108]) = false) (h2' : (k'.toList == [117, 110, 100, 101, 114, 119, 114, 105, 116, 101, 114, 45, 111, 119, 110]) = false) : faultOf k s b = faultOf k' s' b := by
  simp only [faultOf, h1, h2, h1', h2']

def nrm : ByteArray := ⟨#[110, 111, 114, 109, 97, 108]⟩
theorem nrm_is : (!nrm.toList == [110, 111, 114, 109, 97, 108]) = false := by decide +kernel

set_option maxHeartbeats 4000000 in
theorem core (a0 a1 a2 a3 a4 a6 a7 a8 a9 : ByteArray) (a5 : Int) (ht : a0.size + a1.size + a2.size + a3.size + a4.size + a6.size + a7.size + a8.size + a9.size ≤ 1048576)
    (hk2 : (a9.toList == [117, 110, 100, 101, 114, 119, 114, 105, 116, 101, 114, 45, 111, 119, 110]) = false) (w : World) :
    Calls Try.prog 3 #[.string a0, .string a1, .string a2, .string a3, .string a4, .int .i64 a5, .string a6, .string a7, .string a8, .string a9] w fun e w' => e = .returned (.bool true) ∧ Grown w w' := by
  cases hs : (!a4.toList == [110, 111, 114, 109, 97, 108])
  · cases hk : (a3.toList == [117, 110, 100, 101, 114, 119, 114, 105, 116, 101, 114, 45, 111, 119, 110])
    · have hsame := same a3 a4 a9 nrm a5 hs hk nrm_is hk2
      rcases four a9 nrm a5 nrm_is hk2 with hq | hq | hq | hq
      all_goals
        have HR : Hid (faultOf a3 a4 a5 = _) := hsame.trans hq
        have HQ : Hid (faultOf a9 ⟨#[110, 111, 114, 109, 97, 108]⟩ a5 = _) := hq
        clear hsame
        clear hq
        go_enter Try.func3, Try.ntmps3
        go_wp2_with fail
        refine (bytes5_yes _ _ _ _ _ _ _ _ _ _ ht _).mono ?_; rintro e w' ⟨rfl, rfl⟩
        go_wp2_with fail
        refine (sub_any _ _ _ _ _ _ _).mono ?_; rintro e w1 ⟨rfl, hg1⟩
        go_wp2_with fail
        refine (zzfault_is _ _ _ _ _ _ _ HR.out _).mono ?_; rintro e w2 ⟨rfl, hg2⟩
        go_wp2_with fail
        refine (sub_any _ _ _ _ _ _ _).mono ?_; rintro e w3 ⟨rfl, hg3⟩
        go_wp2_with fail
        refine (zzfault_is _ _ _ _ _ _ _ HQ.out _).mono ?_; rintro e w4 ⟨rfl, hg4⟩
        go_wp2
        go_ret
        exact ⟨rfl, gtrans (gtrans (gtrans hg1 hg2) hg3) hg4⟩
    · have hr := f2 a3 a4 a5 hs hk
      rcases four a9 nrm a5 nrm_is hk2 with hq | hq | hq | hq
      all_goals
        have HR : Hid (faultOf a3 a4 a5 = _) := hr
        have HQ : Hid (faultOf a9 ⟨#[110, 111, 114, 109, 97, 108]⟩ a5 = _) := hq
        clear hr
        clear hq
        go_enter Try.func3, Try.ntmps3
        go_wp2_with fail
        refine (bytes5_yes _ _ _ _ _ _ _ _ _ _ ht _).mono ?_; rintro e w' ⟨rfl, rfl⟩
        go_wp2_with fail
        refine (sub_any _ _ _ _ _ _ _).mono ?_; rintro e w1 ⟨rfl, hg1⟩
        go_wp2_with fail
        refine (zzfault_is _ _ _ _ _ _ _ HR.out _).mono ?_; rintro e w2 ⟨rfl, hg2⟩
        go_wp2_with fail
        refine (sub_any _ _ _ _ _ _ _).mono ?_; rintro e w3 ⟨rfl, hg3⟩
        go_wp2_with fail
        refine (zzfault_is _ _ _ _ _ _ _ HQ.out _).mono ?_; rintro e w4 ⟨rfl, hg4⟩
        go_wp2
        go_ret
        exact ⟨rfl, gtrans (gtrans (gtrans hg1 hg2) hg3) hg4⟩
  · have hr := f1 a3 a4 a5 hs
    rcases four a9 nrm a5 nrm_is hk2 with hq | hq | hq | hq
    all_goals
        have HR : Hid (faultOf a3 a4 a5 = _) := hr
        have HQ : Hid (faultOf a9 ⟨#[110, 111, 114, 109, 97, 108]⟩ a5 = _) := hq
        clear hr
        clear hq
        go_enter Try.func3, Try.ntmps3
        go_wp2_with fail
        refine (bytes5_yes _ _ _ _ _ _ _ _ _ _ ht _).mono ?_; rintro e w' ⟨rfl, rfl⟩
        go_wp2_with fail
        refine (sub_any _ _ _ _ _ _ _).mono ?_; rintro e w1 ⟨rfl, hg1⟩
        go_wp2_with fail
        refine (zzfault_is _ _ _ _ _ _ _ HR.out _).mono ?_; rintro e w2 ⟨rfl, hg2⟩
        go_wp2_with fail
        refine (sub_any _ _ _ _ _ _ _).mono ?_; rintro e w3 ⟨rfl, hg3⟩
        go_wp2_with fail
        refine (zzfault_is _ _ _ _ _ _ _ HQ.out _).mono ?_; rintro e w4 ⟨rfl, hg4⟩
        go_wp2
        go_ret
        exact ⟨rfl, gtrans (gtrans (gtrans hg1 hg2) hg3) hg4⟩

theorem lawA_walk (a0 : ByteArray) (a1 : ByteArray) (a2 : ByteArray) (a3 : ByteArray) (a4 : ByteArray) (a5 : Int) (a6 : ByteArray) (a7 : ByteArray) (a8 : ByteArray) (a9 : ByteArray) (w0 : a0.size ≤ maxLen) (w1 : a1.size ≤ maxLen) (w2 : a2.size ≤ maxLen) (w3 : a3.size ≤ maxLen) (w4 : a4.size ≤ maxLen) (w5 : (Lit.int .i64 a5).wf = true) (w6 : a6.size ≤ maxLen) (w7 : a7.size ≤ maxLen) (w8 : a8.size ≤ maxLen) (w9 : a9.size ≤ maxLen) (w : World) :
    Calls Try.prog 3 #[.string a0, .string a1, .string a2, .string a3, .string a4, .int .i64 a5, .string a6, .string a7, .string a8, .string a9] w fun e w' => e = .returned (.bool true) ∧ Grown w w' := by
  by_cases ht : a0.size + a1.size + a2.size + a3.size + a4.size + a6.size + a7.size + a8.size + a9.size ≤ 1048576
  · cases hk2 : (a9.toList == [117, 110, 100, 101, 114, 119, 114, 105, 116, 101, 114, 45, 111, 119, 110])
    · exact core a0 a1 a2 a3 a4 a6 a7 a8 a9 a5 ht hk2 w
    · exact core_own a0 a1 a2 a3 a4 a6 a7 a8 a9 a5 ht hk2 w
  · go_enter Try.func3, Try.ntmps3
    go_wp2_with (go_at_call 5; refine (bytes5_no _ _ _ _ _ _ _ _ _ _ w0 w1 w2 w3 w4 w6 w7 w8 w9 ht _).mono ?_; rintro e w' ⟨rfl, rfl⟩)
    go_ret
    exact ⟨rfl, Grown.refl _⟩
end Go.Proofs.Qxb6616510a
