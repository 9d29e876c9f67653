import Derived.Test.Qxb6616542aDocGet
import Derived.WalkKit
import Derived.WalkSpells
import Derived.WalkLawsBesides
import Derived.Deep.RegionHeld3
import Derived.Deep.AppendLies
namespace Go.Proofs.Qxb6616542a
open Go.RowKit
set_option linter.unusedVariables false

theorem info60 : (Try.prog.info? 60).map (fun i => (i.zero, i.size, i.bytes)) = some (some (.agg #[.string ⟨#[]⟩, .nilIface]), 2, 32) := by kernel_rfl

/-- a document's cells, in a row -/
def flatD (L : List (ByteArray × Int)) : List Value := L.flatMap fun p => [.string p.1, .iface 2 (.int .i64 p.2)]

theorem flatD_snoc (L : List (ByteArray × Int)) (k : Nat) (h : k < L.length) : flatD (L.take (k + 1)) = flatD (L.take k) ++ [.string L[k].1, .iface 2 (.int .i64 L[k].2)] := by
  unfold flatD
  rw [List.take_succ_eq_append_getElem h, List.flatMap_append]
  simp

theorem heap_new2 (w : World) (o o' : Obj) : ((w.alloc o).alloc o').drew.heap[w.heap.size + 1]? = some o' := by
  show ((w.heap.push o).push o')[w.heap.size + 1]? = some o'
  have e : w.heap.size + 1 = (w.heap.push o).size := by simp
  rw [e, Array.getElem?_push_size]

set_option maxHeartbeats 400000 in
theorem elem_any (k : ByteArray) (v : Int) (w : World) : Calls Try.prog 30 #[.string k, .int .i64 v] w fun e w' => e = .returned (.agg #[.string k, .iface 2 (.int .i64 v)]) ∧ w' = w.alloc (.cells #[.string k, .iface 2 (.int .i64 v)] 60) := by
  go_enter Try.func30, Try.ntmps30
  go_wp2
  exact bodyPost_ret (v := .agg #[.string k, .iface 2 (.int .i64 v)]) (by simp [results, Try.results30, go_sem]) rfl ⟨rfl, rfl⟩

/-- what zzDoc hands back: a document of its own memory -/
def RD (L : List (ByteArray × Int)) (w : World) (e : Ending) (w' : World) : Prop :=
  ∃ g c, e = .returned (.slice (some ⟨g, 0, none⟩) L.length c) ∧ w'.ownsRow w.heap.size 60 2 (.slice (some ⟨g, 0, none⟩) L.length c) L.length (flatD L) ∧ Below w.heap.size w w'

set_option maxRecDepth 100000 in
set_option maxHeartbeats 1000000 in
theorem doc_any (a : Option Addr) (cap : Nat) (L : List (ByteArray × Int)) (w : World) (hK : Kvs w a L) (hl : L.length ≤ 1048577) :
    Calls Try.prog 24 #[.slice a L.length cap] w fun e w' => RD L w e w' := by
  obtain ⟨i0, hi, hz0, hz1, hz2⟩ := info_parts info60
  go_enter Try.func24, Try.ntmps24
  go_wp2_with (at_make; refine wpList_make_own _ rfl _ _ 48 rfl w.heap.size 60 i0 _ 2 Try.underlying48 hi hz0 hz1 _ _ _ L.length rfl rfl (by omega) ?b2 ?b3 (Nat.le_refl _) ?_)
  case b2 => rw [hz2]; omega
  case b3 => unfold maxLen; omega
  intro w0 hown0 hgrow0
  go_wp2
  go_loopw [3, 4] (fun v i wr => ∃ (k g c : Nat), k ≤ L.length ∧ i = .int .i64 k ∧ v = .slice (some ⟨g, 0, none⟩) k c ∧ wr.ownsRow w.heap.size 60 2 (.slice (some ⟨g, 0, none⟩) k c) k (flatD (L.take k)) ∧ Below w.heap.size w wr) (fun _ i _ => L.length - (intOf i).toNat)
  case atStart => exact ⟨0, w.heap.size, L.length, by omega, rfl, rfl, hown0, (Below.refl _ _).grown hgrow0 (Nat.le_refl _) (fun k h => by cases h)⟩
  case round =>
    obtain ⟨k, g, c, hkl, rfl, rfl, hown, hb⟩ := hrel
    by_cases hlt : k < L.length
    · obtain ⟨b, off, rfl, hc⟩ := hK (by omega)
      obtain ⟨c0', c1'⟩ := hc k L[k] (by simp [hlt])
      have hbw : b < w.heap.size := World.block_lt_of_cell? w _ c0'
      have c0 := (hb.cell (p := ⟨b, off + k * 2, none⟩) hbw).trans c0'
      have c1 := (hb.cell (p := ⟨b, off + k * 2 + 1, none⟩) hbw).trans c1'
      clear hc c0' c1' hK
      have hsz := hb.size
      have hgl := hown.lt g rfl
      have k0 : (0 : Int) ≤ (k : Int) := Int.natCast_nonneg _
      have k1 : (k : Int) < (L.length : Int) := by omega
      have hwne : some b ≠ some g := by intro h; cases h; omega
      go_wp2_with fail
      go_region_held3 (fun w' => w'.cell? ⟨b, off + k * 2, none⟩ = some (.string L[k].1) ∧ w'.cell? ⟨b, off + k * 2 + 1, none⟩ = some (.int .i64 L[k].2))
        (first
          | go_keep
          | (go_split_ands
             refine ⟨?_, ?_⟩
             · (rw [hgrow.cell_far _ (by simp; omega) hwne]; assumption)
             · (rw [hgrow.cell_far _ (by simp; omega) hwne]; assumption)))
        (first
          | (go_at_call 30; refine (elem_any _ _ _).mono ?_; rintro e w' ⟨rfl, rfl⟩)
          | (refine step_append_lies _ (by rfl) _ _ _ (by rfl) w.heap.size 60 i0 _ 2 32 Try.underlying48 hi hz0 hz1 hz2 rfl (by omega) (.slice (some ⟨g, 0, none⟩) k c) k (flatD (L.take k)) (by rfl) (((hown.alloc _).alloc _).drew)
              ⟨wr.heap.size + 1, 0, none⟩ 1 1 [.string L[k].1, .iface 2 (.int .i64 L[k].2)] (by rfl) (by rfl) (World.news_of_block (cs := #[.string L[k].1, .iface 2 (.int .i64 L[k].2)]) (t := 60) (fr := (0, 0)) (heap_new2 wr _ _)) (by simp [Value.oneCell'])
              (by omega) (by unfold maxLen; omega) (by omega) (by simp; omega) (wr.heap.size + 2) (by simp) ?_; intro g' c' w1 hown1 hgrow hat hglt))
      rw [← flatD_snoc L k hlt] at hown1
      clear hat hglt
      go_wp2
      go_roundw
      case rel => exact ⟨k + 1, g', c', by omega, by go_num, rfl, hown1, ((hb.alloc (by omega) _).alloc (by simp; omega) _).drew.grown hgrow (by simp; omega) (fun x hx => by cases hx; exact hgl.1)⟩
      case measure => simp [intOf]; omega
    · have hkl' : k = L.length := by omega
      subst hkl'
      rw [List.take_length] at hown
      go_wp2
      go_ret
      exact ⟨g, c, rfl, hown, hb⟩

/-- a document that the call owns reads as one; a part of it too -/
theorem flatD_at (L : List (ByteArray × Int)) (i : Nat) (p : ByteArray × Int) (h : L[i]? = some p) : (flatD L)[i * 2]? = some (.string p.1) ∧ (flatD L)[i * 2 + 1]? = some (.iface 2 (.int .i64 p.2)) := by
  induction L generalizing i with
  | nil => simp at h
  | cons q L ih =>
    cases i with
    | zero =>
      simp at h
      subst h
      exact ⟨rfl, rfl⟩
    | succ i =>
      simp at h
      have := ih i h
      have e1 : (i + 1) * 2 = i * 2 + 1 + 1 := by omega
      rw [e1]
      exact ⟨by simpa [flatD] using this.1, by simpa [flatD] using this.2⟩

theorem docs_of_own {w : World} {base g c : Nat} {L : List (ByteArray × Int)} (h : w.ownsRow base 60 2 (.slice (some ⟨g, 0, none⟩) L.length c) L.length (flatD L)) : Docs w (some ⟨g, 0, none⟩) L := by
  intro h0
  refine ⟨g, 0, rfl, (h.lt g rfl).2, fun i p hp => ?_⟩
  have hi : i < L.length := by
    rcases Nat.lt_or_ge i L.length with h' | h'
    · exact h'
    · rw [List.getElem?_eq_none h'] at hp; cases hp
  obtain ⟨e0, e1⟩ := flatD_at L i p hp
  refine ⟨?_, ?_⟩
  · rw [show (0 + i * 2) = i * 2 by omega, h.cellAt (i * 2) (by omega)]; exact e0
  · rw [show (0 + i * 2 + 1) = i * 2 + 1 by omega, h.cellAt (i * 2 + 1) (by omega)]; exact e1

theorem Docs.below {w w' : World} {a : Option Addr} {L : List (ByteArray × Int)} {B : Nat} (h : Docs w a L) (hb : Below B w w') (hB : ∀ x, a = some x → x.block < B) : Docs w' a L := by
  intro h0
  obtain ⟨b, off, rfl, h1, h2⟩ := h h0
  have hlt := hB _ rfl
  refine ⟨b, off, rfl, Nat.lt_of_lt_of_le h1 hb.size, fun i p hp => ?_⟩
  obtain ⟨e0, e1⟩ := h2 i p hp
  exact ⟨(hb.cell (p := ⟨b, off + i * 2, none⟩) hlt).trans e0, (hb.cell (p := ⟨b, off + i * 2 + 1, none⟩) hlt).trans e1⟩

theorem Docs.take {w : World} {a : Option Addr} {L : List (ByteArray × Int)} (h : Docs w a L) (n : Nat) : Docs w a (L.take n) := by
  intro h0
  obtain ⟨b, off, rfl, h1, h2⟩ := h (by simp at h0; omega)
  refine ⟨b, off, rfl, h1, fun i p hp => h2 i p ?_⟩
  rw [List.getElem?_take] at hp
  split at hp
  · exact hp
  · cases hp

theorem Docs.drop {w : World} {b off : Nat} {L : List (ByteArray × Int)} (h : Docs w (some ⟨b, off, none⟩) L) (n : Nat) : Docs w (some ⟨b, off + n * 2, none⟩) (L.drop n) := by
  intro h0
  obtain ⟨b', off', e, h1, h2⟩ := h (by simp at h0; omega)
  cases e
  refine ⟨b, off + n * 2, rfl, h1, fun i p hp => ?_⟩
  rw [List.getElem?_drop] at hp
  have := h2 (n + i) p hp
  rw [show off + n * 2 + i * 2 = off + (n + i) * 2 by omega]
  exact this
end Go.Proofs.Qxb6616542a
