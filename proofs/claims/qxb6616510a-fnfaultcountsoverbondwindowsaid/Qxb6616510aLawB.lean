import Derived.Test.Qxb6616510aConB
import Derived.WalkKit
namespace Go.Proofs.Qxb6616510a
open Go.RowKit
set_option linter.unusedVariables false

set_option maxRecDepth 100000 in
set_option maxHeartbeats 1000000 in
theorem lawB_status (a0 a1 a2 a3 a4 : ByteArray) (lo n : Int) (ht : a0.size + a1.size + a2.size + a3.size + a4.size ≤ 1048576)
    (l0 : -9223372036854775808 ≤ lo) (l1 : lo + n ≤ 9223372036854775807) (n0 : 0 ≤ n) (n1 : n ≤ 65536)
    (hs : (!a4.toList == [110, 111, 114, 109, 97, 108]) = true) (w : World) :
    Calls Try.prog 4 #[.string a0, .string a1, .string a2, .string a3, .string a4, .int .i64 lo, .int .i64 n] w fun e w' => e = .returned (.bool true) ∧ Grown w w' := by
  go_enter Try.func4, Try.ntmps4
  go_wp2_with (go_at_call 8; refine (bytes8_yes _ _ _ _ _ _ _ ht _).mono ?_; rintro e w ⟨rfl, rfl⟩)
  go_loopw [17, 18, 19, 20, 21, 22, 23, 24] (fun v st ow bl un ab ot i wr => ∃ k : Nat, (k : Int) ≤ n + 1 ∧ i = .int .i64 k ∧ st = .int .i64 k ∧ v = .int .i64 0 ∧ ow = .int .i64 0 ∧ bl = .int .i64 0 ∧ un = .int .i64 0 ∧ ab = .int .i64 0 ∧ ot = .int .i64 0 ∧ Grown w wr)
    (fun _ _ _ _ _ _ _ i _ => (n + 1 - intOf i).toNat)
  case atStart => exact ⟨0, by omega, rfl, rfl, rfl, rfl, rfl, rfl, rfl, rfl, Grown.refl _⟩
  case round =>
    obtain ⟨k, hk, rfl, rfl, rfl, rfl, rfl, rfl, rfl, rfl, hg⟩ := hrel
    by_cases hlt : (k : Int) ≤ n
    · have HR : Hid (faultOf a3 a4 (lo + k) = _) := f1 a3 a4 (lo + k) hs
      go_wp2_with fail
      refine (sub_any _ _ _ _ _ _ _).mono ?_; rintro e w1 ⟨rfl, hg1⟩
      go_wp2_with fail
      refine (zzfault_at _ _ _ _ _ _ _ HR.out _).mono ?_; rintro e w2 ⟨rfl, hg2⟩
      go_wp2
      go_roundw
      case rel => exact ⟨k + 1, by omega, by go_num, by go_num, rfl, rfl, rfl, rfl, rfl, rfl, gtrans (gtrans hg hg1) hg2⟩
      case measure => simp [intOf]; omega
    · have hkn : (k : Int) = n + 1 := by omega
      have hkb : ((k : Int) == n + 1) = true := by simp [hkn]
      have HK : Hid ((k : Int) = n + 1) := hkn
      clear hkn
      go_wp2
      go_ret
      exact ⟨rfl, hg⟩
set_option maxRecDepth 100000 in
set_option maxHeartbeats 1000000 in
theorem lawB_own (a0 a1 a2 a3 a4 : ByteArray) (lo n : Int) (ht : a0.size + a1.size + a2.size + a3.size + a4.size ≤ 1048576)
    (l0 : -9223372036854775808 ≤ lo) (l1 : lo + n ≤ 9223372036854775807) (n0 : 0 ≤ n) (n1 : n ≤ 65536)
    (hs : (!a4.toList == [110, 111, 114, 109, 97, 108]) = false) (ho : (a3.toList == [117, 110, 100, 101, 114, 119, 114, 105, 116, 101, 114, 45, 111, 119, 110]) = true) (w : World) :
    Calls Try.prog 4 #[.string a0, .string a1, .string a2, .string a3, .string a4, .int .i64 lo, .int .i64 n] w fun e w' => e = .returned (.bool true) ∧ Grown w w' := by
  go_enter Try.func4, Try.ntmps4
  go_wp2_with (go_at_call 8; refine (bytes8_yes _ _ _ _ _ _ _ ht _).mono ?_; rintro e w ⟨rfl, rfl⟩)
  go_loopw [17, 18, 19, 20, 21, 22, 23, 24] (fun v st ow bl un ab ot i wr => ∃ k : Nat, (k : Int) ≤ n + 1 ∧ i = .int .i64 k ∧ ow = .int .i64 k ∧ v = .int .i64 0 ∧ st = .int .i64 0 ∧ bl = .int .i64 0 ∧ un = .int .i64 0 ∧ ab = .int .i64 0 ∧ ot = .int .i64 0 ∧ Grown w wr)
    (fun _ _ _ _ _ _ _ i _ => (n + 1 - intOf i).toNat)
  case atStart => exact ⟨0, by omega, rfl, rfl, rfl, rfl, rfl, rfl, rfl, rfl, Grown.refl _⟩
  case round =>
    obtain ⟨k, hk, rfl, rfl, rfl, rfl, rfl, rfl, rfl, rfl, hg⟩ := hrel
    by_cases hlt : (k : Int) ≤ n
    · have HR : Hid (faultOf a3 a4 (lo + k) = _) := f2 a3 a4 (lo + k) hs ho
      go_wp2_with fail
      refine (sub_any _ _ _ _ _ _ _).mono ?_; rintro e w1 ⟨rfl, hg1⟩
      go_wp2_with fail
      refine (zzfault_at _ _ _ _ _ _ _ HR.out _).mono ?_; rintro e w2 ⟨rfl, hg2⟩
      go_wp2
      go_roundw
      case rel => exact ⟨k + 1, by omega, by go_num, by go_num, rfl, rfl, rfl, rfl, rfl, rfl, gtrans (gtrans hg hg1) hg2⟩
      case measure => simp [intOf]; omega
    · have hkn : (k : Int) = n + 1 := by omega
      have hkb : ((k : Int) == n + 1) = true := by simp [hkn]
      have HK : Hid ((k : Int) = n + 1) := hkn
      clear hkn
      go_wp2
      go_ret
      exact ⟨rfl, hg⟩
theorem i64_eq {a b : Int} (h : a = b) : Value.int .i64 a = .int .i64 b := by rw [h]

set_option maxRecDepth 100000 in
set_option maxHeartbeats 2000000 in
theorem lawB_plain (a0 a1 a2 a3 a4 : ByteArray) (lo n : Int) (ht : a0.size + a1.size + a2.size + a3.size + a4.size ≤ 1048576)
    (l0 : -9223372036854775808 ≤ lo) (l1 : lo + n ≤ 9223372036854775807) (n0 : 0 ≤ n) (n1 : n ≤ 65536)
    (hs : (!a4.toList == [110, 111, 114, 109, 97, 108]) = false) (ho : (a3.toList == [117, 110, 100, 101, 114, 119, 114, 105, 116, 101, 114, 45, 111, 119, 110]) = false) (w : World) :
    Calls Try.prog 4 #[.string a0, .string a1, .string a2, .string a3, .string a4, .int .i64 lo, .int .i64 n] w fun e w' => e = .returned (.bool true) ∧ Grown w w' := by
  go_enter Try.func4, Try.ntmps4
  go_wp2_with (go_at_call 8; refine (bytes8_yes _ _ _ _ _ _ _ ht _).mono ?_; rintro e w ⟨rfl, rfl⟩)
  go_loopw [17, 18, 19, 20, 21, 22, 23, 24] (fun v st ow bl un ab ot i wr => ∃ k : Nat, (k : Int) ≤ n + 1 ∧ i = .int .i64 k ∧ st = .int .i64 0 ∧ v = .int .i64 (Cnt.cV lo k) ∧ ow = .int .i64 0 ∧ bl = .int .i64 (Cnt.cB lo k) ∧ un = .int .i64 (Cnt.cU lo k) ∧ ab = .int .i64 (Cnt.cA lo k) ∧ ot = .int .i64 0 ∧ Grown w wr)
    (fun _ _ _ _ _ _ _ i _ => (n + 1 - intOf i).toNat)
  case atStart =>
    obtain ⟨z1, z2, z3, z4⟩ := Cnt.zero lo
    exact ⟨0, by omega, rfl, rfl, i64_eq z2.symm, rfl, i64_eq z1.symm, i64_eq z4.symm, i64_eq z3.symm, rfl, Grown.refl _⟩
  case round =>
    obtain ⟨k, hk, rfl, rfl, rfl, rfl, rfl, rfl, rfl, rfl, hg⟩ := hrel
    obtain ⟨⟨b1, b2⟩, ⟨b3, b4⟩, ⟨b5, b6⟩, ⟨b7, b8⟩⟩ := Cnt.bounds lo k (by omega)
    by_cases hlt : (k : Int) ≤ n
    · by_cases c1 : lo + k < 10
      · have HS : Hid _ := Cnt.stepB lo k (by omega) c1
        have HR : Hid (faultOf a3 a4 (lo + k) = _) := f3 a3 a4 (lo + k) hs ho c1
        go_wp2_with fail
        refine (sub_any _ _ _ _ _ _ _).mono ?_; rintro e w1 ⟨rfl, hg1⟩
        go_wp2_with fail
        refine (zzfault_at _ _ _ _ _ _ _ HR.out _).mono ?_; rintro e w2 ⟨rfl, hg2⟩
        go_wp2
        go_roundw
        case rel => exact ⟨k + 1, by omega, by go_num, rfl, i64_eq HS.out.2.1.symm, rfl, i64_eq HS.out.1.symm, i64_eq HS.out.2.2.2.symm, i64_eq HS.out.2.2.1.symm, rfl, gtrans (gtrans hg hg1) hg2⟩
        case measure => simp [intOf]; omega
      · by_cases c2 : (lo + k) % 10 = 0
        · have c2b : ((lo + k) % 10 != 0) = false := by simp [c2]
          have C2 : Hid ((lo + k) % 10 = 0) := c2
          clear c2
          by_cases c3 : 10000 < lo + k
          · have HS : Hid _ := Cnt.stepA lo k (by omega) c3 C2.out
            have HR : Hid (faultOf a3 a4 (lo + k) = _) := f5 a3 a4 (lo + k) hs ho (by omega) c2b c3
            go_wp2_with fail
            refine (sub_any _ _ _ _ _ _ _).mono ?_; rintro e w1 ⟨rfl, hg1⟩
            go_wp2_with fail
            refine (zzfault_at _ _ _ _ _ _ _ HR.out _).mono ?_; rintro e w2 ⟨rfl, hg2⟩
            go_wp2
            go_roundw
            case rel => exact ⟨k + 1, by omega, by go_num, rfl, i64_eq HS.out.2.1.symm, rfl, i64_eq HS.out.1.symm, i64_eq HS.out.2.2.2.symm, i64_eq HS.out.2.2.1.symm, rfl, gtrans (gtrans hg hg1) hg2⟩
            case measure => simp [intOf]; omega
          · have HS : Hid _ := Cnt.stepV lo k (by omega) (by omega) (by omega) C2.out
            have HR : Hid (faultOf a3 a4 (lo + k) = _) := f6 a3 a4 (lo + k) hs ho (by omega) c2b (by omega)
            go_wp2_with fail
            refine (sub_any _ _ _ _ _ _ _).mono ?_; rintro e w1 ⟨rfl, hg1⟩
            go_wp2_with fail
            refine (zzfault_at _ _ _ _ _ _ _ HR.out _).mono ?_; rintro e w2 ⟨rfl, hg2⟩
            go_wp2
            go_roundw
            case rel => exact ⟨k + 1, by omega, by go_num, rfl, i64_eq HS.out.2.1.symm, rfl, i64_eq HS.out.1.symm, i64_eq HS.out.2.2.2.symm, i64_eq HS.out.2.2.1.symm, rfl, gtrans (gtrans hg hg1) hg2⟩
            case measure => simp [intOf]; omega
        · have c2b : ((lo + k) % 10 != 0) = true := by simp [c2]
          have C2 : Hid (¬ (lo + k) % 10 = 0) := c2
          clear c2
          have HS : Hid _ := Cnt.stepU lo k (by omega) (by omega) C2.out
          have HR : Hid (faultOf a3 a4 (lo + k) = _) := f4 a3 a4 (lo + k) hs ho (by omega) c2b
          go_wp2_with fail
          refine (sub_any _ _ _ _ _ _ _).mono ?_; rintro e w1 ⟨rfl, hg1⟩
          go_wp2_with fail
          refine (zzfault_at _ _ _ _ _ _ _ HR.out _).mono ?_; rintro e w2 ⟨rfl, hg2⟩
          go_wp2
          go_roundw
          case rel => exact ⟨k + 1, by omega, by go_num, rfl, i64_eq HS.out.2.1.symm, rfl, i64_eq HS.out.1.symm, i64_eq HS.out.2.2.2.symm, i64_eq HS.out.2.2.1.symm, rfl, gtrans (gtrans hg hg1) hg2⟩
          case measure => simp [intOf]; omega
    · have hkn : (k : Int) = n + 1 := by omega
      have e0 : lo + (k : Int) - 1 = lo + n := by omega
      have t1 : (Cnt.cV lo k == Cnt.tens (Cnt.mx lo 10) (Cnt.mn (lo + n) 10000)) = true := by simp [Cnt.cV, e0]
      have t2 : (Cnt.cB lo k == Cnt.span lo (Cnt.mn (lo + n) 9)) = true := by simp [Cnt.cB, e0]
      have t3 : (Cnt.cU lo k == Cnt.span (Cnt.mx lo 10) (lo + n) - Cnt.tens (Cnt.mx lo 10) (lo + n)) = true := by simp [Cnt.cU, e0]
      have t4 : (Cnt.cA lo k == Cnt.tens (Cnt.mx lo 10001) (lo + n)) = true := by simp [Cnt.cA, e0]
      have s1 : 0 ≤ Cnt.span (Cnt.mx lo 10) (lo + n) ∧ Cnt.span (Cnt.mx lo 10) (lo + n) ≤ 65537 := by unfold Cnt.span Cnt.mx; omega
      have s2 : 0 ≤ Cnt.tens (Cnt.mx lo 10) (lo + n) ∧ Cnt.tens (Cnt.mx lo 10) (lo + n) ≤ 65537 := by unfold Cnt.tens Cnt.mx; omega
      obtain ⟨s11, s12⟩ := s1
      obtain ⟨s21, s22⟩ := s2
      clear hkn e0
      go_wp2_with fail
      refine (min_any _ _ _).mono ?_; rintro e w1 ⟨rfl, rfl⟩
      go_wp2_with fail
      refine (span_any _ _ _ l0 (by unfold Cnt.mn; omega) (by unfold Cnt.mn; omega)).mono ?_; rintro e w1 ⟨rfl, rfl⟩
      go_wp2_with fail
      refine (max_any _ _ _).mono ?_; rintro e w1 ⟨rfl, rfl⟩
      go_wp2_with fail
      refine (min_any _ _ _).mono ?_; rintro e w1 ⟨rfl, rfl⟩
      go_wp2_with fail
      refine (tens_any _ _ _ (by unfold Cnt.mx; omega) (by unfold Cnt.mx; omega) (by unfold Cnt.mn; omega) (by unfold Cnt.mn; omega) (by unfold Cnt.mn Cnt.mx; omega)).mono ?_; rintro e w1 ⟨rfl, rfl⟩
      go_wp2_with fail
      refine (max_any _ _ _).mono ?_; rintro e w1 ⟨rfl, rfl⟩
      go_wp2_with fail
      refine (tens_any _ _ _ (by unfold Cnt.mx; omega) (by unfold Cnt.mx; omega) l1 (by omega) (by unfold Cnt.mx; omega)).mono ?_; rintro e w1 ⟨rfl, rfl⟩
      go_wp2_with fail
      refine (max_any _ _ _).mono ?_; rintro e w1 ⟨rfl, rfl⟩
      go_wp2_with fail
      refine (span_any _ _ _ (by unfold Cnt.mx; omega) l1 (by unfold Cnt.mx; omega)).mono ?_; rintro e w1 ⟨rfl, rfl⟩
      go_wp2_with fail
      refine (max_any _ _ _).mono ?_; rintro e w1 ⟨rfl, rfl⟩
      go_wp2_with fail
      refine (tens_any _ _ _ (by unfold Cnt.mx; omega) (by unfold Cnt.mx; omega) l1 (by omega) (by unfold Cnt.mx; omega)).mono ?_; rintro e w1 ⟨rfl, rfl⟩
      go_wp2
      go_ret
      exact ⟨rfl, hg⟩

theorem wf_bounds {a : Int} (h : (Lit.int .i64 a).wf = true) : -9223372036854775808 ≤ a ∧ a ≤ 9223372036854775807 := by
  simp [Lit.wf, IntKind.min, IntKind.max, IntKind.signed, IntKind.bits] at h; omega

set_option maxRecDepth 100000 in
set_option maxHeartbeats 1000000 in
theorem lawB_walk (a0 : ByteArray) (a1 : ByteArray) (a2 : ByteArray) (a3 : ByteArray) (a4 : ByteArray) (a5 : Int) (a6 : Int) (w0 : a0.size ≤ maxLen) (w1 : a1.size ≤ maxLen) (w2 : a2.size ≤ maxLen) (w3 : a3.size ≤ maxLen) (w4 : a4.size ≤ maxLen) (w5 : (Lit.int .i64 a5).wf = true) (w6 : (Lit.int .i64 a6).wf = true) (w : World) :
    Calls Try.prog 4 #[.string a0, .string a1, .string a2, .string a3, .string a4, .int .i64 a5, .int .i64 a6] w fun e w' => e = .returned (.bool true) ∧ Grown w w' := by
  obtain ⟨l0, l1⟩ := wf_bounds w5
  obtain ⟨m0, m1⟩ := wf_bounds w6
  by_cases ht : a0.size + a1.size + a2.size + a3.size + a4.size ≤ 1048576
  · by_cases n0 : a6 < 0
    · go_enter Try.func4, Try.ntmps4
      go_wp2_with (go_at_call 8; refine (bytes8_yes _ _ _ _ _ _ _ ht _).mono ?_; rintro e w ⟨rfl, rfl⟩)
      go_ret
      exact ⟨rfl, Grown.refl _⟩
    · by_cases n1 : 65536 < a6
      · go_enter Try.func4, Try.ntmps4
        go_wp2_with (go_at_call 8; refine (bytes8_yes _ _ _ _ _ _ _ ht _).mono ?_; rintro e w ⟨rfl, rfl⟩)
        go_ret
        exact ⟨rfl, Grown.refl _⟩
      · by_cases n2 : 9223372036854775807 - a6 < a5
        · go_enter Try.func4, Try.ntmps4
          go_wp2_with (go_at_call 8; refine (bytes8_yes _ _ _ _ _ _ _ ht _).mono ?_; rintro e w ⟨rfl, rfl⟩)
          go_ret
          exact ⟨rfl, Grown.refl _⟩
        · cases hs : (!a4.toList == [110, 111, 114, 109, 97, 108])
          · cases ho : (a3.toList == [117, 110, 100, 101, 114, 119, 114, 105, 116, 101, 114, 45, 111, 119, 110])
            · exact lawB_plain a0 a1 a2 a3 a4 a5 a6 ht l0 (by omega) (by omega) (by omega) hs ho w
            · exact lawB_own a0 a1 a2 a3 a4 a5 a6 ht l0 (by omega) (by omega) (by omega) hs ho w
          · exact lawB_status a0 a1 a2 a3 a4 a5 a6 ht l0 (by omega) (by omega) (by omega) hs w
  · go_enter Try.func4, Try.ntmps4
    go_wp2_with (go_at_call 8; refine (bytes8_no _ _ _ _ _ _ _ w0 w1 w2 w3 w4 ht _).mono ?_; rintro e w ⟨rfl, rfl⟩)
    go_ret
    exact ⟨rfl, Grown.refl _⟩
end Go.Proofs.Qxb6616510a
