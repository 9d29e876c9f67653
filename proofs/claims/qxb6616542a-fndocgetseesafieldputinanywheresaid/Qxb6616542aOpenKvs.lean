/- A slice of KV that came in, opened: a list of keys and values, and the cells that hold them. -/
import Derived.Test.Qxb6616542aSizes
import Derived.ProofKit
import Derived.OpenShut
import Derived.ShutString
import Derived.Deep.SlicePairs
namespace Go.Proofs.Qxb6616542a
open Go.ChangeShapes Go.WideShapes Go.ChangeAt Go.RowKit Go.Deep

theorem list_of {α : Type} {p : Nat → α → Prop} : ∀ n : Nat, (∀ i, i < n → ∃ x, p i x) → ∃ L : List α, L.length = n ∧ ∀ i x, L[i]? = some x → p i x
  | 0, _ => ⟨[], rfl, fun i x h => by simp at h⟩
  | n + 1, h => by
    obtain ⟨L, hl, hp⟩ := list_of n fun i hi => h i (by omega)
    obtain ⟨x, hx⟩ := h n (by omega)
    refine ⟨L ++ [x], by simp [hl], fun i y hy => ?_⟩
    rw [List.getElem?_append] at hy
    split at hy
    · exact hp i y hy
    · have hi : i = n := by
        rcases Nat.lt_or_ge (i - L.length) 1 with h1 | h1
        · omega
        · rw [List.getElem?_eq_none (by simpa using h1)] at hy; cases hy
      subst hi
      simp [hl] at hy
      subst hy
      exact hx

theorem open_kvs {H : Type} {enc : TypeId × Value → H} {W : World} {a : Option Addr} {len cap : Nat} {d : DataW H} {ps : List MemPlace}
    (h : DataW.Trod enc Try.prog W 0 (fun _ => true) true 44 (.slice a len cap) d ps) :
    ∃ L : List (ByteArray × Int), L.length = len ∧ Kvs W a L ∧ L.length ≤ maxLen ∧ (∀ p ∈ L, p.1.size ≤ maxLen) ∧ (∀ p ∈ L, (Lit.int .i64 p.2).wf = true) := by
  obtain ⟨fuel, hf⟩ := h
  rcases open_slice_pairs Try.underlying44 Try.underlying53 (by kernel_rfl) rfl rfl (by kernel_rfl) (by kernel_rfl) hf with ⟨hcs, _⟩ | ⟨x, l, c, m, n, V0, V1, D0, D1, P0, P1, hcs, _, hl, hm, hmm, _, hx⟩
  · simp [Value.cells] at hcs
    obtain ⟨rfl, rfl, rfl⟩ := hcs
    exact ⟨[], rfl, fun h0 => by simp at h0, by simp, by simp, by simp⟩
  · simp [Value.cells] at hcs
    obtain ⟨rfl, rfl, rfl⟩ := hcs
    have hlm : len ≤ m := by rw [hmm]; simpa using hl
    obtain ⟨L, hL, hp⟩ := list_of (α := ByteArray × Int) (p := fun i p => W.cell? (x.add (i * 2)) = some (.string p.1) ∧ W.cell? (x.add (i * 2 + 1)) = some (.int .i64 p.2) ∧ p.1.size ≤ maxLen ∧ (Lit.int .i64 p.2).wf = true) len (by
      intro i hi
      obtain ⟨e0, e1, t0, t1⟩ := hx i (by omega)
      obtain ⟨s, hs, _, hsz⟩ := DataW.trod_string Try.underlying9 t0
      obtain ⟨v, hv, _, hwf⟩ := DataW.trod_int Try.underlying2 t1
      simp at hs hv
      rw [hs] at e0
      rw [hv] at e1
      exact ⟨(s, v), e0, e1, hsz, hwf⟩)
    refine ⟨L, hL, ?_, by omega, fun p hp' => ?_, fun p hp' => ?_⟩
    · intro h0
      obtain ⟨b, off, spot⟩ := x
      have g0 := (hp 0 L[0] (by simp)).1
      have hspot : spot = none := by simpa [Addr.add] using World.cell?_spot g0
      subst hspot
      refine ⟨b, off, rfl, fun i p hi => ?_⟩
      obtain ⟨e0, e1, _, _⟩ := hp i p hi
      rw [add_plain] at e0 e1
      exact ⟨e0, e1⟩
    · obtain ⟨i, hi⟩ := List.mem_iff_getElem?.1 hp'
      exact (hp i p hi).2.2.1
    · obtain ⟨i, hi⟩ := List.mem_iff_getElem?.1 hp'
      exact (hp i p hi).2.2.2
end Go.Proofs.Qxb6616542a
