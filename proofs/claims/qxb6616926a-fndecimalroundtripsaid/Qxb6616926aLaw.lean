import Derived.Test.Qxb6616926aCoef
import Derived.WalkKit
import Derived.WalkSpells
import Derived.WalkLawsBesides
import Derived.Deep.RegionWith
import Derived.Deep.QuietTactic
import Derived.BigQuiet
namespace Go.Proofs.Qxb6616926a
open Go.RowKit
set_option linter.unusedVariables false

/-- what FromDecimal hands back -/
def RV (c x : Int) (w : World) (e : Ending) (w' : World) : Prop := e = .returned (.agg #[.int .i64 c, .int .i32 x, .pointer none]) ∧ Below w.heap.size w w'

set_option maxHeartbeats 1000000 in
theorem from_any (b base : Nat) (c x : Int) (w : World) (hI : IntAt base w b c) (h0 : -9223372036854775808 ≤ c) (h1 : c ≤ 9223372036854775807) :
    Calls Try.prog 6 #[.agg #[.pointer (some ⟨b, 0, none⟩), .int .i32 x]] w fun e w' => RV c x w e w' := by
  go_enter Try.func6, Try.ntmps6
  go_wp2_with fail
  have hb2 : Below w.heap.size w ((w.alloc (.cells #[.pointer (some ⟨b, 0, none⟩), .int .i32 x] 24)).alloc (.cells #[.int .i64 0, .int .i32 0, .pointer none] 27)) := ((Below.refl _ _).alloc (Nat.le_refl _) _).alloc (by simp) _
  refine (coef_any b base c x _ (hI.below hb2)).mono ?_
  rintro e w3 ⟨b', rfl, hI3, hb3⟩
  have d0 := hb3.cell (p := ⟨w.heap.size, 0, none⟩) (by simp; omega)
  have d1 := hb3.cell (p := ⟨w.heap.size, 1, none⟩) (by simp; omega)
  have k0 := hb3.cell (p := ⟨w.heap.size + 1, 0, none⟩) (by simp)
  have k1 := hb3.cell (p := ⟨w.heap.size + 1, 1, none⟩) (by simp)
  have k2 := hb3.cell (p := ⟨w.heap.size + 1, 2, none⟩) (by simp)
  have f0 := hb3.frozen (p := ⟨w.heap.size + 1, 0, none⟩) (by simp)
  have f1 := hb3.frozen (p := ⟨w.heap.size + 1, 1, none⟩) (by simp)
  have f2 := hb3.frozen (p := ⟨w.heap.size + 1, 2, none⟩) (by simp)
  have hz : w.heap.size + 1 < w3.heap.size := by have := hb3.size; simp at this; omega
  simp at d0 d1 k0 k1 k2 f0 f1 f2
  go_wp2_with fail
  refine (isInt_any _ b' c _ hI3 h0 h1).mono ?_
  rintro e w4 ⟨rfl, hw⟩
  subst hw
  go_wp2_with fail
  have hIa : ∀ o, IntAt 0 (w4.alloc o) b' c := fun o => (hI3.mono (Nat.zero_le _)).below ((Below.refl _ _).alloc (Nat.le_refl _) o)
  have hI0 : IntAt 0 w4 b' c := hI3.mono (Nat.zero_le _)
  have HIA : Hid (∀ o, IntAt 0 (w4.alloc o) b' c) := hIa
  clear hI3 hIa
  go_region_with (first
    | (go_at_call 11; refine (int64_any 0 b' c _ (by first | exact hI0 | exact HIA.out _) h0 h1).mono ?_; rintro e w' ⟨rfl, rfl⟩)
    | (go_at_call 12; refine (exp_any _ x _).mono ?_; rintro e w' ⟨rfl, rfl⟩))
  all_goals
    go_wp2
    refine bodyPost_ret (v := .agg #[.int .i64 c, .int .i32 x, .pointer none]) (by simp [results, Try.results6, go_sem, k0, k1, k2, hz]) rfl ⟨rfl, ?_⟩
    exact ((((((hb2.trans (hb3.mono (by simp; omega))).setCell (by simp) _).setCell (by simp) _).setCell (by simp) _).alloc (by simp [World.setCell]; omega) _)).drew

set_option maxHeartbeats 400000 in
theorem vint_any (c x : Int) (w : World) : Calls Try.prog 7 #[.agg #[.int .i64 c, .int .i32 x, .pointer none]] w fun e w' => e = .returned (.tuple #[.int .i64 c, .int .i32 x, .bool true]) ∧ Below w.heap.size w w' := by
  go_enter Try.func7, Try.ntmps7
  go_wp2
  go_region
  all_goals
    go_wp2
    go_ret3
    exact ⟨rfl, ((Below.refl _ _).alloc (Nat.le_refl _) _).drew⟩

theorem wf_i64 {a : Int} (h : (Lit.int .i64 a).wf = true) : -9223372036854775808 ≤ a ∧ a ≤ 9223372036854775807 := by
  simp [Lit.wf, IntKind.min, IntKind.max, IntKind.signed, IntKind.bits] at h; omega

set_option maxHeartbeats 1000000 in
theorem law_walk (c x : Int) (wc : (Lit.int .i64 c).wf = true) (w : World) : Calls Try.prog 3 #[.int .i64 c, .int .i32 x] w fun e w' => e = .returned (.bool true) ∧ Below w.heap.size w w' := by
  obtain ⟨h0, h1⟩ := wf_i64 wc
  go_enter Try.func3, Try.ntmps3
  go_wp2_with fail
  refine (vnew_any c x _).mono ?_
  rintro e w1 ⟨rfl, hb1⟩
  go_wp2_with fail
  refine (vdec_any c x _ h0 h1).mono ?_
  rintro e w2 ⟨b, rfl, hI, hb2⟩
  go_wp2_with fail
  refine (from_any b _ c x _ (hI.below ((Below.refl _ _).alloc (Nat.le_refl _) _)) h0 h1).mono ?_
  rintro e w3 ⟨rfl, hb3⟩
  go_wp2_with fail
  refine (vint_any c x _).mono ?_
  rintro e w4 ⟨rfl, hb4⟩
  go_wp2
  go_ret
  refine ⟨rfl, ?_⟩
  have s1 := hb1.size
  have s2 := hb2.size
  have s3 := hb3.size
  simp at s3
  exact (((hb1.trans (hb2.mono s1)).alloc (by omega) _).trans (hb3.mono (by simp; omega))).trans (hb4.mono (by omega))
end Go.Proofs.Qxb6616926a
