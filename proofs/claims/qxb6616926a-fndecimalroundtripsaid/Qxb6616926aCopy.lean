import Derived.Test.Qxb6616926aRead
import Derived.WalkKit
import Derived.WalkSpells
import Derived.WalkLawsBesides
import Derived.Laws.CopyOwn
namespace Go.Proofs.Qxb6616926a
open Go.RowKit
set_option linter.unusedVariables false

theorem size48 : (Try.prog.info? 48).map (·.size) = some 1 := by kernel_rfl

set_option maxHeartbeats 400000 in
theorem make_zero (w : World) : Calls Try.prog 24 #[.slice none 0 0, .int .i64 0] w fun e w' => e = .returned (.slice none 0 0) ∧ w' = w := by
  go_enter Try.func24, Try.ntmps24
  go_wp2
  go_ret
  exact ⟨rfl, rfl⟩
set_option maxHeartbeats 400000 in
theorem make_one (w : World) : Calls Try.prog 24 #[.slice none 0 0, .int .i64 1] w fun e w' => e = .returned (.slice (some ⟨w.heap.size, 0, none⟩) 1 1) ∧ w' = w.alloc (.cells #[.int .u64 0] 48) := by
  have hmk : ∀ w, (Instr.makeSlice 41 (.int .i64 1) (.int .i64 1)).run Try.prog w = .ok (.slice (some ⟨w.heap.size, 0, none⟩) 1 1) (w.alloc (.cells #[.int .u64 0] 48)) := fun _ => by kernel_rfl
  go_enter Try.func24, Try.ntmps24
  go_wp2
  go_ret
  exact ⟨rfl, rfl⟩
theorem copy_none (w : World) : (Builtin.copy_ #[41, 41] 3 #[.slice none 0 0, .slice none 0 0]).run Try.prog w = .ok (.int .i64 0) w :=
  run_copy_none w 41 41 3 48 none none 0 0 0 0 Try.underlying41 size48 rfl

theorem copy_one (b2 cap : Nat) (m : Int) (w : World) (k2 : w.cell? ⟨b2, 0, none⟩ = some (.int .u64 m)) :
    (Builtin.copy_ #[41, 41] 3 #[.slice (some ⟨w.heap.size, 0, none⟩) 1 1, .slice (some ⟨b2, 0, none⟩) 1 cap]).run Try.prog (w.alloc (.cells #[.int .u64 0] 48)) = .ok (.int .i64 1) (w.alloc (.cells #[.int .u64 m] 48)) := by
  have hb := World.block_lt_of_cell? w _ k2
  have h := run_copy_cells (P := Try.prog) (w.alloc (.cells #[.int .u64 0] 48)) 41 41 3 48 w.heap.size 0 1 1 ⟨b2, 0, none⟩ 1 cap [.int .u64 m] Try.underlying41 size48 rfl
    (fun j v hj => by
      match j, hj with
      | 0, hj =>
        simp at hj
        subst hj
        have e : (⟨b2, 0, none⟩ : Addr).add 0 = ⟨b2, 0, none⟩ := rfl
        rw [e]
        exact (World.cell?_of_block (Below.heap_alloc w _ b2 hb)).trans k2)
    (fun j hj => by
      match j, hj with
      | 0, hj => simp)
    (fun j hj => by
      match j, hj with
      | 0, hj => simp)
    (fun v hv => by simp at hv; subst hv; rfl)
  rw [h]
  show Result.ok (Value.int .i64 1) _ = _
  congr 1
  simp only [World.setCells]
  rw [World.setCell_alloc_at _ _ _ _ _ rfl]
  rfl

set_option maxHeartbeats 400000 in
theorem set_zero (w : World) : Calls Try.prog 23 #[.slice none 0 0, .slice none 0 0] w fun e w' => e = .returned (.slice none 0 0) ∧ w' = w := by
  have hcp := copy_none
  go_enter Try.func23, Try.ntmps23
  go_wp2_with (go_at_call 24; refine (make_zero _).mono ?_; rintro e w1 ⟨rfl, rfl⟩)
  go_ret
  exact ⟨rfl, rfl⟩
set_option maxHeartbeats 400000 in
theorem set_one (b2 cap : Nat) (m : Int) (w : World) (k2 : w.cell? ⟨b2, 0, none⟩ = some (.int .u64 m)) : Calls Try.prog 23 #[.slice none 0 0, .slice (some ⟨b2, 0, none⟩) 1 cap] w fun e w' => e = .returned (.slice (some ⟨w.heap.size, 0, none⟩) 1 1) ∧ w' = w.alloc (.cells #[.int .u64 m] 48) := by
  have hcp := copy_one b2 cap m w k2
  go_enter Try.func23, Try.ntmps23
  go_wp2_with (go_at_call 24; refine (make_one _).mono ?_; rintro e w1 ⟨rfl, rfl⟩)
  go_ret
  exact ⟨rfl, rfl⟩
end Go.Proofs.Qxb6616926a
