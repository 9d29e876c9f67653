import Derived.Test.Qxb6616542aInt
import Derived.WalkKit
import Derived.WalkLawsBesides
namespace Go.Proofs.Qxb6616542a
open Go.RowKit
set_option linter.unusedVariables false

/-- the cells of a slice of KV: keys and values, in a world -/
def Kvs (w : World) (a : Option Addr) (L : List (ByteArray × Int)) : Prop :=
  0 < L.length → ∃ b off, a = some ⟨b, off, none⟩ ∧ ∀ i p, L[i]? = some p → w.cell? ⟨b, off + i * 2, none⟩ = some (.string p.1) ∧ w.cell? ⟨b, off + i * 2 + 1, none⟩ = some (.int .i64 p.2)

/-- it returns a bool, and turns nothing; where it says yes the list is short -/
def RB (n : Nat) (w : World) (e : Ending) (w' : World) : Prop := ∃ r, e = .returned (.bool r) ∧ w' = w ∧ (r = true → n ≤ 1048576)
theorem RB.no {n : Nat} {w : World} : RB n w (.returned (.bool false)) w := ⟨false, rfl, rfl, fun h => by cases h⟩
theorem RB.yes {n : Nat} {w : World} (h : n ≤ 1048576) : RB n w (.returned (.bool true)) w := ⟨true, rfl, rfl, fun _ => h⟩

set_option maxHeartbeats 400000 in
theorem bytes22_any (a : Option Addr) (cap : Nat) (L : List (ByteArray × Int)) (cut : Int) (key : ByteArray) (w : World)
    (hK : Kvs w a L) (hl : L.length ≤ maxLen) (hs : ∀ p ∈ L, p.1.size ≤ maxLen) (hk : key.size ≤ maxLen) :
    Calls Try.prog 22 #[.slice a L.length cap, .int .i64 cut, .string key] w fun e w' => RB L.length w e w' := by
  unfold maxLen at *
  by_cases h0 : L.length ≤ 1048576
  · go_enter Try.func22, Try.ntmps22
    go_wp2
    go_loop [7, 8] (fun zn i => ∃ (k : Nat) (s : Int), k ≤ L.length ∧ i = .int .i64 k ∧ zn = .int .i64 s ∧ 0 ≤ s ∧ s ≤ 1048576) (fun _ i => L.length - (intOf i).toNat)
    case atStart => exact ⟨0, L.length, by omega, rfl, rfl, by omega, by omega⟩
    case round =>
      obtain ⟨k, s, hkl, rfl, rfl, s0, s1⟩ := hrel
      by_cases hlt : k < L.length
      · obtain ⟨b, off, rfl, hc⟩ := hK (by omega)
        obtain ⟨c0, c1⟩ := hc k L[k] (by simp [hlt])
        have hz := hs L[k] (List.getElem_mem hlt)
        clear hc hs
        go_wp2
        · go_ret; exact RB.no
        · go_ret; exact RB.no
        · go_round
          case rel => exact ⟨k + 1, _, by omega, by go_num, rfl, by omega, by omega⟩
          case measure => simp [intOf]; omega
      · go_wp2
        · go_ret; exact RB.no
        · go_ret; exact RB.no
        · go_ret; exact RB.yes h0
  · go_enter Try.func22, Try.ntmps22
    go_wp2
    go_ret; exact RB.no

set_option maxHeartbeats 400000 in
theorem bytes26_any (a : Option Addr) (cap : Nat) (L : List (ByteArray × Int)) (cut v : Int) (key other : ByteArray) (w : World)
    (hK : Kvs w a L) (hl : L.length ≤ maxLen) (hs : ∀ p ∈ L, p.1.size ≤ maxLen) (hk : key.size ≤ maxLen) (ho : other.size ≤ maxLen) :
    Calls Try.prog 26 #[.slice a L.length cap, .int .i64 cut, .string key, .int .i64 v, .string other] w fun e w' => RB L.length w e w' := by
  unfold maxLen at *
  by_cases h0 : L.length ≤ 1048576
  · go_enter Try.func26, Try.ntmps26
    go_wp2
    go_loop [11, 12] (fun zn i => ∃ (k : Nat) (s : Int), k ≤ L.length ∧ i = .int .i64 k ∧ zn = .int .i64 s ∧ 0 ≤ s ∧ s ≤ 1048576) (fun _ i => L.length - (intOf i).toNat)
    case atStart => exact ⟨0, L.length, by omega, rfl, rfl, by omega, by omega⟩
    case round =>
      obtain ⟨k, s, hkl, rfl, rfl, s0, s1⟩ := hrel
      by_cases hlt : k < L.length
      · obtain ⟨b, off, rfl, hc⟩ := hK (by omega)
        obtain ⟨c0, c1⟩ := hc k L[k] (by simp [hlt])
        have hz := hs L[k] (List.getElem_mem hlt)
        clear hc hs
        go_wp2
        · go_ret; exact RB.no
        · go_ret; exact RB.no
        · go_round
          case rel => exact ⟨k + 1, _, by omega, by go_num, rfl, by omega, by omega⟩
          case measure => simp [intOf]; omega
      · go_wp2
        · go_ret; exact RB.no
        · go_ret; exact RB.no
        · go_ret; exact RB.no
        · go_ret; exact RB.no
        · go_ret; exact RB.yes h0
  · go_enter Try.func26, Try.ntmps26
    go_wp2
    go_ret; exact RB.no

set_option maxHeartbeats 400000 in
theorem tooBig_any (a : Option Addr) (cap : Nat) (L : List (ByteArray × Int)) (x : Int) (w : World)
    (hK : Kvs w a L) (h0 : L.length ≤ 1048576) (hs : ∀ p ∈ L, p.1.size ≤ maxLen) (x0 : 0 ≤ x) (x1 : x ≤ 2097152) :
    Calls Try.prog 23 #[.slice a L.length cap, .int .i64 x] w fun e w' => RB L.length w e w' := by
  unfold maxLen at *
  by_cases hx : x ≤ 1048576
  · go_enter Try.func23, Try.ntmps23
    go_wp2
    go_loop [5, 6] (fun zn i => ∃ (k : Nat) (s : Int), k ≤ L.length ∧ i = .int .i64 k ∧ zn = .int .i64 s ∧ 0 ≤ s ∧ s ≤ 1048576) (fun _ i => L.length - (intOf i).toNat)
    case atStart => exact ⟨0, x, by omega, rfl, rfl, by omega, by omega⟩
    case round =>
      obtain ⟨k, s, hkl, rfl, rfl, s0, s1⟩ := hrel
      by_cases hlt : k < L.length
      · obtain ⟨b, off, rfl, hc⟩ := hK (by omega)
        obtain ⟨c0, c1⟩ := hc k L[k] (by simp [hlt])
        have hz := hs L[k] (List.getElem_mem hlt)
        clear hc hs
        go_wp2
        · go_ret; exact RB.yes h0
        · go_ret; exact RB.yes h0
        · go_round
          case rel => exact ⟨k + 1, _, by omega, by go_num, rfl, by omega, by omega⟩
          case measure => simp [intOf]; omega
      · go_wp2
        go_ret; exact RB.no
  · go_enter Try.func23, Try.ntmps23
    go_wp2
    go_ret; exact RB.yes h0
end Go.Proofs.Qxb6616542a
