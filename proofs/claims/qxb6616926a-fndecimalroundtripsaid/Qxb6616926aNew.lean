import Derived.Test.Qxb6616926aRows
import Derived.WalkKit
import Derived.WalkSpells
import Derived.WalkLawsBesides
namespace Go.Proofs.Qxb6616926a
open Go.RowKit
set_option linter.unusedVariables false

/-- the magnitude and the sign of a coefficient, as a big.Int holds them -/
def mag (c : Int) : Int := if c < 0 then -c else c
def sgn (c : Int) : Bool := decide (c < 0)

/-- a big.Int that lies in block b (and, where it is not 0, its one word in a block of its own), both from 'base' on -/
def IntAt (base : Nat) (w : World) (b : Nat) (c : Int) : Prop :=
  base ≤ b ∧
  ((c = 0 ∧ w.heap[b]? = some (.cells #[.bool (sgn c), .slice none 0 0] 43 (0, 0))) ∨
   (c ≠ 0 ∧ ∃ b2, base ≤ b2 ∧ w.heap[b]? = some (.cells #[.bool (sgn c), .slice (some ⟨b2, 0, none⟩) 1 1] 43 (0, 0)) ∧ w.heap[b2]? = some (.cells #[.int .u64 (mag c)] 48 (0, 0))))

/-- the same, by cells -/
def IntC (base : Nat) (w : World) (b : Nat) (c : Int) : Prop :=
  base ≤ b ∧ w.cell? ⟨b, 0, none⟩ = some (.bool (sgn c)) ∧
  ((c = 0 ∧ w.cell? ⟨b, 1, none⟩ = some (.slice none 0 0)) ∨
   (c ≠ 0 ∧ ∃ b2, base ≤ b2 ∧ w.cell? ⟨b, 1, none⟩ = some (.slice (some ⟨b2, 0, none⟩) 1 1) ∧ w.cell? ⟨b2, 0, none⟩ = some (.int .u64 (mag c))))

theorem IntAt.cells {base : Nat} {w : World} {b : Nat} {c : Int} (h : IntAt base w b c) : IntC base w b c := by
  obtain ⟨h0, ⟨hc, h1⟩ | ⟨hc, b2, h2, h3, h4⟩⟩ := h
  · exact ⟨h0, by simp [World.cell?, h1], .inl ⟨hc, by simp [World.cell?, h1]⟩⟩
  · exact ⟨h0, by simp [World.cell?, h3], .inr ⟨hc, b2, h2, by simp [World.cell?, h3], by simp [World.cell?, h4]⟩⟩

theorem lt_of_block {w : World} {k : Nat} {o : Obj} (h : w.heap[k]? = some o) : k < w.heap.size := by
  rcases Nat.lt_or_ge k w.heap.size with h1 | h1
  · exact h1
  · rw [Array.getElem?_eq_none h1] at h; cases h

theorem IntAt.lt {base : Nat} {w : World} {b : Nat} {c : Int} (h : IntAt base w b c) : b < w.heap.size := by
  obtain ⟨h0, ⟨hc, h1⟩ | ⟨hc, b2, h2, h3, h4⟩⟩ := h
  · exact lt_of_block h1
  · exact lt_of_block h3

theorem IntAt.below {base : Nat} {w w' : World} {b : Nat} {c : Int} (h : IntAt base w b c) (hb : Below w.heap.size w w') : IntAt base w' b c := by
  obtain ⟨h0, ⟨hc, h1⟩ | ⟨hc, b2, h2, h3, h4⟩⟩ := h
  · exact ⟨h0, .inl ⟨hc, (hb.block b (lt_of_block h1)).trans h1⟩⟩
  · exact ⟨h0, .inr ⟨hc, b2, h2, (hb.block b (lt_of_block h3)).trans h3, (hb.block b2 (lt_of_block h4)).trans h4⟩⟩

theorem IntAt.setCell {base : Nat} {w : World} {b : Nat} {c : Int} (h : IntAt base w b c) {a : Addr} (ha : a.block < base) (v : Value) : IntAt base (w.setCell a v) b c := by
  have far : ∀ x : Nat, base ≤ x → (w.setCell a v).heap[x]? = w.heap[x]? := fun x hx => Below.heap_setCell w a v x (by omega)
  obtain ⟨h0, ⟨hc, h1⟩ | ⟨hc, b2, h2, h3, h4⟩⟩ := h
  · exact ⟨h0, .inl ⟨hc, (far _ h0).trans h1⟩⟩
  · exact ⟨h0, .inr ⟨hc, b2, h2, (far _ h0).trans h3, (far _ h2).trans h4⟩⟩

theorem IntAt.mono {base base' : Nat} {w : World} {b : Nat} {c : Int} (h : IntAt base w b c) (hb : base' ≤ base) : IntAt base' w b c := by
  obtain ⟨h0, h1 | ⟨hc, b2, h2, h3, h4⟩⟩ := h
  · exact ⟨by omega, .inl h1⟩
  · exact ⟨by omega, .inr ⟨hc, b2, by omega, h3, h4⟩⟩

theorem heap_new1 (w : World) (o : Obj) : (w.alloc o).heap[w.heap.size]? = some o := by
  show (w.heap.push o)[w.heap.size]? = some o
  simp
theorem heap_new2 (w : World) (o o' : Obj) : ((w.alloc o).alloc o').heap[w.heap.size + 1]? = some o' := by
  show ((w.heap.push o).push o')[w.heap.size + 1]? = some o'
  have e : w.heap.size + 1 = (w.heap.push o).size := by simp
  rw [e, Array.getElem?_push_size]
theorem heap_new1' (w : World) (o o' : Obj) : ((w.alloc o).alloc o').heap[w.heap.size]? = some o :=
  (Below.heap_alloc (w.alloc o) o' w.heap.size (by simp)).trans (heap_new1 w o)

/-- what NewInt, Coefficient hand back -/
def RI (c : Int) (w : World) (e : Ending) (w' : World) : Prop := ∃ b, e = .returned (.pointer (some ⟨b, 0, none⟩)) ∧ IntAt w.heap.size w' b c ∧ Below w.heap.size w w'

theorem RI.nz {c : Int} {w : World} {s : Bool} {m : Int} (hc : c ≠ 0) (hs : s = sgn c) (hm : m = mag c) :
    RI c w (.returned (.pointer (some ⟨w.heap.size + 1, 0, none⟩))) ((w.alloc (.cells #[.int .u64 m] 48)).alloc (.cells #[.bool s, .slice (some ⟨w.heap.size, 0, none⟩) 1 1] 43)) := by
  subst hs; subst hm
  exact ⟨_, rfl, ⟨by omega, .inr ⟨hc, w.heap.size, by omega, heap_new2 w _ _, heap_new1' w _ _⟩⟩, ((Below.refl _ _).alloc (Nat.le_refl _) _).alloc (by simp) _⟩

set_option maxHeartbeats 400000 in
theorem newInt_any (c : Int) (w : World) (h0 : -9223372036854775808 ≤ c) (h1 : c ≤ 9223372036854775807) : Calls Try.prog 13 #[.int .i64 c] w fun e w' => RI c w e w' := by
  by_cases hz : c = 0
  · subst hz
    go_enter Try.func13, Try.ntmps13
    go_wp2
    go_ret
    exact ⟨_, rfl, ⟨Nat.le_refl _, .inl ⟨rfl, heap_new1 w _⟩⟩, (Below.refl _ _).alloc (Nat.le_refl _) _⟩
  · have hz' : (c == 0) = false := by simp [hz]
    by_cases hn : c < 0
    · go_enter Try.func13, Try.ntmps13
      go_wp2
      go_ret
      exact RI.nz hz (by simp [sgn, hn]) (by simp only [mag, hn, if_true, IntKind.wrap, IntKind.signed, IntKind.bits]; simp; omega)
    · go_enter Try.func13, Try.ntmps13
      go_wp2
      go_ret
      exact RI.nz hz (by unfold sgn; rw [decide_eq_false (by omega)]) (by unfold mag; rw [if_neg (by omega)])

/-- what decimal.New, Value.Decimal hand back -/
def RDec (c x : Int) (w : World) (e : Ending) (w' : World) : Prop := ∃ b, e = .returned (.agg #[.pointer (some ⟨b, 0, none⟩), .int .i32 x]) ∧ IntAt w.heap.size w' b c ∧ Below w.heap.size w w'

set_option maxHeartbeats 400000 in
theorem new_any (c x : Int) (w : World) (h0 : -9223372036854775808 ≤ c) (h1 : c ≤ 9223372036854775807) : Calls Try.prog 8 #[.int .i64 c, .int .i32 x] w fun e w' => RDec c x w e w' := by
  go_enter Try.func8, Try.ntmps8
  go_wp2_with fail
  refine (newInt_any c _ h0 h1).mono ?_
  rintro e w1 ⟨b, rfl, hI, hb⟩
  have k0 := hb.cell (p := ⟨w.heap.size, 0, none⟩) (by simp)
  have k1 := hb.cell (p := ⟨w.heap.size, 1, none⟩) (by simp)
  have f0 := hb.frozen (p := ⟨w.heap.size, 0, none⟩) (by simp)
  have f1 := hb.frozen (p := ⟨w.heap.size, 1, none⟩) (by simp)
  have hz : w.heap.size < w1.heap.size := by have := hb.size; simp at this; omega
  simp at k0 k1 f0 f1
  go_wp2
  refine bodyPost_ret (v := .agg #[.pointer (some ⟨b, 0, none⟩), .int .i32 x]) (by simp [results, Try.results8, go_sem, k0, k1]) rfl ⟨b, rfl, ?_, ?_⟩
  · exact ((hI.setCell (by simp) _).setCell (by simp) _).mono (by simp)
  · exact ((((Below.refl _ _).alloc (Nat.le_refl _) _).trans (hb.mono (by simp))).setCell (Nat.le_refl _) _).setCell (Nat.le_refl _) _

/-- a Value that holds its coefficient as an int64 -/
def vAgg (c x : Int) : Value := .agg #[.int .i64 c, .int .i32 x, .pointer none]

set_option maxHeartbeats 400000 in
theorem vnew_any (c x : Int) (w : World) : Calls Try.prog 4 #[.int .i64 c, .int .i32 x] w fun e w' => e = .returned (.agg #[.int .i64 c, .int .i32 x, .pointer none]) ∧ Below w.heap.size w w' := by
  go_enter Try.func4, Try.ntmps4
  go_wp2
  exact bodyPost_ret (v := .agg #[.int .i64 c, .int .i32 x, .pointer none]) (by simp [results, Try.results4, go_sem]) rfl ⟨rfl, (Below.refl _ _).alloc (Nat.le_refl _) _⟩

set_option maxHeartbeats 400000 in
theorem vdec_any (c x : Int) (w : World) (h0 : -9223372036854775808 ≤ c) (h1 : c ≤ 9223372036854775807) : Calls Try.prog 5 #[.agg #[.int .i64 c, .int .i32 x, .pointer none]] w fun e w' => RDec c x w e w' := by
  go_enter Try.func5, Try.ntmps5
  go_wp2_with fail
  refine (new_any c x _ h0 h1).mono ?_
  rintro e w1 ⟨b, rfl, hI, hb⟩
  have k0 := hb.cell (p := ⟨w.heap.size + 1, 0, none⟩) (by simp)
  have k1 := hb.cell (p := ⟨w.heap.size + 1, 1, none⟩) (by simp)
  have f0 := hb.frozen (p := ⟨w.heap.size + 1, 0, none⟩) (by simp)
  have f1 := hb.frozen (p := ⟨w.heap.size + 1, 1, none⟩) (by simp)
  have hz : w.heap.size + 1 < w1.heap.size := by have := hb.size; simp at this; omega
  simp at k0 k1 f0 f1
  go_wp2
  refine bodyPost_ret (v := .agg #[.pointer (some ⟨b, 0, none⟩), .int .i32 x]) (by simp [results, Try.results5, go_sem, k0, k1]) rfl ⟨b, rfl, ?_, ?_⟩
  · exact ((hI.setCell (by simp) _).setCell (by simp) _).mono (by simp; omega)
  · exact (((((Below.refl _ _).alloc (Nat.le_refl _) _).alloc (by simp) _).trans (hb.mono (by simp; omega))).setCell (by simp) _).setCell (by simp) _

set_option maxHeartbeats 400000 in
/-- a Decimal whose coefficient is there is left alone -/
theorem ensure_any (d b : Nat) (w : World) (h : w.cell? ⟨d, 0, none⟩ = some (.pointer (some ⟨b, 0, none⟩))) : Calls Try.prog 14 #[.pointer (some ⟨d, 0, none⟩)] w fun e w' => e = .returned (.tuple #[]) ∧ w' = w := by
  go_enter Try.func14, Try.ntmps14
  go_wp2
  go_end0
  exact ⟨rfl, rfl⟩

theorem low_zero (w : World) : Calls Try.prog 22 #[.slice none 0 0] w fun e w' => e = .returned (.int .u64 0) ∧ w' = w := by
  go_enter Try.func22, Try.ntmps22
  go_wp2
  go_ret
  exact ⟨rfl, rfl⟩
theorem low_one (b2 cap : Nat) (u : Int) (w : World) (h : w.cell? ⟨b2, 0, none⟩ = some (.int .u64 u)) : Calls Try.prog 22 #[.slice (some ⟨b2, 0, none⟩) 1 cap] w fun e w' => e = .returned (.int .u64 u) ∧ w' = w := by
  go_enter Try.func22, Try.ntmps22
  go_wp2
  go_ret
  exact ⟨rfl, rfl⟩
end Go.Proofs.Qxb6616926a
