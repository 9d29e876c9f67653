import Derived.Test.Qxb6616926aCopy
import Derived.WalkKit
import Derived.WalkSpells
import Derived.WalkLawsBesides
import Derived.LaidEqlPtr
import Derived.Deep.RegionHeld3
import Derived.Deep.RegionWith
namespace Go.Proofs.Qxb6616926a
open Go.RowKit
set_option linter.unusedVariables false

theorem run_neq_ptr_other {P : Program} (w : World) {tp te : TypeId} {j : TypeInfo} {a b : Addr} {ca cb : Array Value} {ta tb : TypeId} (hp : P.underlying tp = some (.pointer te)) (hte : P.info? te = some j) (hsz : j.size ≠ 0)
    (hne : a ≠ b) (ha : w.heap[a.block]? = some (.cells ca ta (0, 0))) (hb : w.heap[b.block]? = some (.cells cb tb (0, 0))) :
    (binOp .neq tp (.pointer (some a)) (.pointer (some b))).run P w = .ok (.bool true) w := by
  have h : ∀ d : Nat, (Op.equalIn (d + 1) tp (.pointer (some a)) (.pointer (some b))).run P w = .ok false w := fun d => by
    simp [Op.equalIn, run_underlying hp, sizeOf, typeInfo, hte, hsz, run_sameAddr_other w hne ha hb]
  simp only [binOp]
  simp [Op.equal, Op.maxDepth, h 9999]

theorem info43 : (Try.prog.info? 43).map (fun i => (i.zero, i.size, i.bytes)) = some (some (.agg #[.bool false, .slice none 0 0]), 2, 32) := by kernel_rfl

theorem neq_of {w : World} {z x : Nat} {cz cx : Array Value} {tz tx : TypeId} (hne : z ≠ x) (hz : w.heap[z]? = some (.cells cz tz (0, 0))) (hx : w.heap[x]? = some (.cells cx tx (0, 0))) :
    (binOp .neq 22 (.pointer (some ⟨z, 0, none⟩)) (.pointer (some ⟨x, 0, none⟩))).run Try.prog w = .ok (.bool true) w := by
  obtain ⟨i0, hi, hz0, hz1, hz2⟩ := info_parts info43
  exact run_neq_ptr_other w Try.underlying22 hi (by rw [hz1]; decide) (by intro h; cases h; exact hne rfl) hz hx

theorem cells_of {w : World} {z : Nat} {v0 v1 : Value} {t : TypeId} (hz : w.heap[z]? = some (.cells #[v0, v1] t (0, 0))) :
    w.cell? ⟨z, 0, none⟩ = some v0 ∧ w.cell? ⟨z, 1, none⟩ = some v1 ∧ w.frozen? ⟨z, 0, none⟩ = false ∧ w.frozen? ⟨z, 1, none⟩ = false := by
  refine ⟨by simp [World.cell?, hz], by simp [World.cell?, hz], by simp [World.frozen?, hz], by simp [World.frozen?, hz]⟩

theorem heap_set {w : World} {z i : Nat} {cs : Array Value} {t : TypeId} {fr : Nat × Nat} (v : Value) (hz : w.heap[z]? = some (.cells cs t fr)) : (w.setCell ⟨z, i, none⟩ v).heap[z]? = some (.cells (cs.setIfInBounds i v) t fr) := by
  simp [World.setCell, Array.getElem?_modify, hz]

theorem heap_set2 {w : World} {z : Nat} {a b : Value} {t : TypeId} (v0 v1 : Value) (hz : w.heap[z]? = some (.cells #[a, b] t (0, 0))) : ((w.setCell ⟨z, 1, none⟩ v1).setCell ⟨z, 0, none⟩ v0).heap[z]? = some (.cells #[v0, v1] t (0, 0)) := by
  rw [heap_set v0 (heap_set v1 hz)]
  rfl

theorem below_set2 {w0 w : World} {z : Nat} (v0 v1 : Value) (hb : Below z w0 w) : Below z w0 ((w.setCell ⟨z, 1, none⟩ v1).setCell ⟨z, 0, none⟩ v0).drew :=
  ((hb.setCell (Nat.le_refl _) _).setCell (Nat.le_refl _) _).drew

set_option maxHeartbeats 1000000 in
theorem Set_zero (z x : Nat) (w : World) (hne : z ≠ x) (hz : w.heap[z]? = some (.cells #[.bool false, .slice none 0 0] 43 (0, 0))) (hx : w.heap[x]? = some (.cells #[.bool false, .slice none 0 0] 43 (0, 0))) :
    Calls Try.prog 15 #[.pointer (some ⟨z, 0, none⟩), .pointer (some ⟨x, 0, none⟩)] w fun e w' => e = .returned (.pointer (some ⟨z, 0, none⟩)) ∧ IntAt z w' z 0 ∧ Below z w w' := by
  have hq := neq_of hne hz hx
  obtain ⟨z0, z1, f0, f1⟩ := cells_of hz
  obtain ⟨x0, x1, -, -⟩ := cells_of hx
  have HZ : Hid (w.heap[z]? = some (.cells #[.bool false, .slice none 0 0] 43 (0, 0))) := hz
  clear hz hx
  go_enter Try.func15, Try.ntmps15
  go_wp2_with fail
  go_region_with (go_at_call 23; refine (set_zero _).mono ?_; rintro e w' ⟨rfl, rfl⟩)
  all_goals
    go_wp2
    go_ret
    exact ⟨rfl, ⟨Nat.le_refl _, .inl ⟨rfl, heap_set2 _ _ HZ.out⟩⟩, below_set2 _ _ (Below.refl _ _)⟩

theorem end_one {w : World} {z : Nat} (s : Bool) (m : Int) (hz : w.heap[z]? = some (.cells #[.bool false, .slice none 0 0] 43 (0, 0))) :
    (((w.setCell ⟨z, 1, none⟩ (.slice (some ⟨w.heap.size, 0, none⟩) 1 1)).setCell ⟨z, 0, none⟩ (.bool s)).alloc (.cells #[.int .u64 m] 48)).drew.heap[z]? = some (.cells #[.bool s, .slice (some ⟨w.heap.size, 0, none⟩) 1 1] 43 (0, 0)) ∧
    (((w.setCell ⟨z, 1, none⟩ (.slice (some ⟨w.heap.size, 0, none⟩) 1 1)).setCell ⟨z, 0, none⟩ (.bool s)).alloc (.cells #[.int .u64 m] 48)).drew.heap[w.heap.size]? = some (.cells #[.int .u64 m] 48 (0, 0)) ∧
    Below z w (((w.setCell ⟨z, 1, none⟩ (.slice (some ⟨w.heap.size, 0, none⟩) 1 1)).setCell ⟨z, 0, none⟩ (.bool s)).alloc (.cells #[.int .u64 m] 48)).drew := by
  have hzl := lt_of_block hz
  have hsz : ((w.setCell ⟨z, 1, none⟩ (.slice (some ⟨w.heap.size, 0, none⟩) 1 1)).setCell ⟨z, 0, none⟩ (.bool s)).heap.size = w.heap.size := by simp [World.setCell]
  refine ⟨?_, ?_, ?_⟩
  · exact (Below.heap_alloc _ _ z (by rw [hsz]; exact hzl)).trans (heap_set2 _ _ hz)
  · have h := heap_new1 ((w.setCell ⟨z, 1, none⟩ (.slice (some ⟨w.heap.size, 0, none⟩) 1 1)).setCell ⟨z, 0, none⟩ (.bool s)) (.cells #[.int .u64 m] 48)
    rw [hsz] at h
    exact h
  · exact (((((Below.refl z w).setCell (Nat.le_refl _) _).setCell (Nat.le_refl _) _).alloc (by rw [hsz]; omega) _)).drew

set_option maxHeartbeats 1000000 in
theorem Set_one (z x b2 : Nat) (s : Bool) (m : Int) (w : World) (hne : z ≠ x) (hz : w.heap[z]? = some (.cells #[.bool false, .slice none 0 0] 43 (0, 0))) (hx : w.heap[x]? = some (.cells #[.bool s, .slice (some ⟨b2, 0, none⟩) 1 1] 43 (0, 0)))
    (k2 : w.cell? ⟨b2, 0, none⟩ = some (.int .u64 m)) (c : Int) (hc : c ≠ 0) (hs : sgn c = s) (hm : mag c = m) :
    Calls Try.prog 15 #[.pointer (some ⟨z, 0, none⟩), .pointer (some ⟨x, 0, none⟩)] w fun e w' => e = .returned (.pointer (some ⟨z, 0, none⟩)) ∧ IntAt z w' z c ∧ Below z w w' := by
  have hq := neq_of hne hz hx
  obtain ⟨z0, z1, f0, f1⟩ := cells_of hz
  obtain ⟨x0, x1, -, -⟩ := cells_of hx
  have hzl := lt_of_block hz
  have hxl := lt_of_block hx
  have HZ : Hid (w.heap[z]? = some (.cells #[.bool false, .slice none 0 0] 43 (0, 0))) := hz
  have HS : Hid (sgn c = s) := hs
  have HM : Hid (mag c = m) := hm
  have HK : Hid (w.cell? ⟨b2, 0, none⟩ = some (.int .u64 m)) := k2
  clear hz hx hs hm k2
  go_enter Try.func15, Try.ntmps15
  go_wp2_with fail
  go_region_with (go_at_call 23; refine (set_one b2 1 m _ (by exact HK.out)).mono ?_; rintro e w' ⟨rfl, rfl⟩)
  all_goals
    go_wp2
    go_ret
    obtain ⟨e1, e2, e3⟩ := end_one s m HZ.out
    exact ⟨rfl, ⟨Nat.le_refl _, .inr ⟨hc, w.heap.size, Nat.le_of_lt hzl, by rw [HS.out]; exact e1, by rw [HM.out]; exact e2⟩⟩, e3⟩

theorem Set_any (z x base : Nat) (c : Int) (w : World) (hne : z ≠ x) (hz : w.heap[z]? = some (.cells #[.bool false, .slice none 0 0] 43 (0, 0))) (hx : IntAt base w x c) :
    Calls Try.prog 15 #[.pointer (some ⟨z, 0, none⟩), .pointer (some ⟨x, 0, none⟩)] w fun e w' => e = .returned (.pointer (some ⟨z, 0, none⟩)) ∧ IntAt z w' z c ∧ Below z w w' := by
  obtain ⟨-, ⟨rfl, h1⟩ | ⟨hc, b2, -, h3, h4⟩⟩ := hx
  · exact Set_zero z x w hne hz h1
  · exact Set_one z x b2 (sgn c) (mag c) w hne hz h3 (by simp [World.cell?, h4]) c hc rfl rfl

/-- (Decimal).Coefficient: a copy of the coefficient, in new memory -/
theorem coef_any (b base : Nat) (c x : Int) (w : World) (hI : IntAt base w b c) : Calls Try.prog 9 #[.agg #[.pointer (some ⟨b, 0, none⟩), .int .i32 x]] w fun e w' => RI c w e w' := by
  have hlt := hI.lt
  go_enter Try.func9, Try.ntmps9
  go_wp2_with fail
  refine (ensure_any _ b _ (by simp)).mono ?_
  rintro e w1 ⟨rfl, hw⟩
  subst hw
  go_wp2_with fail
  have hb2 : Below w.heap.size w ((w.alloc (.cells #[.pointer (some ⟨b, 0, none⟩), .int .i32 x] 24)).alloc (.cells #[.bool false, .slice none 0 0] 43)) := ((Below.refl _ _).alloc (Nat.le_refl _) _).alloc (by simp) _
  refine (Set_any (w.heap.size + 1) b base c _ (by omega) (heap_new2 w _ _) (hI.below hb2)).mono ?_
  rintro e w3 ⟨rfl, hI3, hb3⟩
  go_wp2
  go_ret
  exact ⟨_, rfl, hI3.mono (by omega), hb2.trans (hb3.mono (by omega))⟩
end Go.Proofs.Qxb6616926a
