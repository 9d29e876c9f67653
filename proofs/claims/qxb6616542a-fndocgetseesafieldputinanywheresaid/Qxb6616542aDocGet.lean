import Derived.Test.Qxb6616542aSizes
import Derived.Test.Qxb6616542aGet
import Derived.WalkKit
import Derived.WalkLawsBesides
namespace Go.Proofs.Qxb6616542a
open Go.RowKit
set_option linter.unusedVariables false

/-- the cells of a document: keys, and int64 values in their interface boxes -/
def Docs (w : World) (a : Option Addr) (L : List (ByteArray × Int)) : Prop :=
  0 < L.length → ∃ b off, a = some ⟨b, off, none⟩ ∧ b < w.heap.size ∧ ∀ i p, L[i]? = some p → w.cell? ⟨b, off + i * 2, none⟩ = some (.string p.1) ∧ w.cell? ⟨b, off + i * 2 + 1, none⟩ = some (.iface 2 (.int .i64 p.2))

def boxV : Option Int → Value
  | none => .nilIface
  | some v => .iface 2 (.int .i64 v)

/-- what Get hands back -/
def RG (o : Option Int) (w : World) (e : Ending) (w' : World) : Prop := e = .returned (.tuple #[boxV o, .bool o.isSome]) ∧ Below w.heap.size w w'

set_option maxHeartbeats 400000 in
theorem get_any (a : Option Addr) (cap : Nat) (L : List (ByteArray × Int)) (key : ByteArray) (w : World)
    (hD : Docs w a L) (hl : L.length ≤ 1048577) :
    Calls Try.prog 31 #[.slice a L.length cap, .string key] w fun e w' => RG (Plain.get key L) w e w' := by
  go_enter Try.func31, Try.ntmps31
  go_wp2
  go_loopw [10] (fun i wr => ∃ (k : Nat), k ≤ L.length ∧ i = .int .i64 k ∧ Hid (Plain.get key L = Plain.get key (L.drop k)) ∧ Below w.heap.size w wr) (fun i _ => L.length - (intOf i).toNat)
  case atStart => exact ⟨0, by omega, rfl, by simp [Hid], Below.refl _ _⟩
  case round =>
    obtain ⟨k, hkl, rfl, hg, hb⟩ := hrel
    by_cases hlt : k < L.length
    · obtain ⟨b, off, rfl, hbw, hc⟩ := hD (by omega)
      obtain ⟨c0', c1'⟩ := hc k L[k] (by simp [hlt])
      have c0 := (hb.cell (p := ⟨b, off + k * 2, none⟩) hbw).trans c0'
      have c1 := (hb.cell (p := ⟨b, off + k * 2 + 1, none⟩) hbw).trans c1'
      clear hc c0' c1' hD
      have hne := hb.size
      cases ht : (L[k].1.toList == key.toList)
      · have HM : Hid (Plain.get key (L.drop k) = Plain.get key (L.drop (k + 1))) := Plain.get_miss key L k hlt ht
        go_wp2
        go_roundw
        case rel => exact ⟨k + 1, by omega, by go_num, hg.out.trans HM.out, hb.alloc (by omega) _⟩
        case measure => simp [intOf]; omega
      · have HM : Hid (Plain.get key (L.drop k) = some L[k].2) := Plain.get_hit key L k hlt ht
        go_wp2
        go_ret2
        exact ⟨by rw [hg.out, HM.out]; rfl, hb.alloc (by omega) _⟩
    · have hkl' : k = L.length := by omega
      have HM : Hid (Plain.get key L = none) := by rw [hg.out, hkl']; exact Plain.get_end key L
      clear hkl'
      go_wp2
      go_ret2
      exact ⟨by rw [HM.out]; rfl, hb⟩

/-- ZZGetInt64: the value, whether it was an int64, whether a field was found -/
def RZ (o : Option Int) (w : World) (e : Ending) (w' : World) : Prop := e = .returned (.tuple #[.int .i64 (o.getD 0), .bool o.isSome, .bool o.isSome]) ∧ Below w.heap.size w w'

set_option maxHeartbeats 400000 in
theorem zzget_any (a : Option Addr) (cap : Nat) (L : List (ByteArray × Int)) (key : ByteArray) (w : World)
    (hD : Docs w a L) (hl : L.length ≤ 1048577) :
    Calls Try.prog 25 #[.slice a L.length cap, .string key] w fun e w' => RZ (Plain.get key L) w e w' := by
  have hG := get_any a cap L key w hD hl
  generalize Plain.get key L = o at hG ⊢
  cases o with
  | none =>
    have HG : Hid (Calls Try.prog 31 #[.slice a L.length cap, .string key] w fun e w' => RG none w e w') := hG
    clear hG
    go_enter Try.func25, Try.ntmps25
    go_wp2_with (first
      | (go_at_call 31; refine HG.out.mono ?_; rintro e w1 ⟨rfl, hb⟩; simp only [boxV, Option.isSome])
      | (go_at_call 29; refine (asInt64_nil _).mono ?_; rintro e w2 ⟨rfl, rfl⟩))
    go_ret3
    exact ⟨rfl, by assumption⟩
  | some v =>
    have HG : Hid (Calls Try.prog 31 #[.slice a L.length cap, .string key] w fun e w' => RG (some v) w e w') := hG
    clear hG
    go_enter Try.func25, Try.ntmps25
    go_wp2_with (first
      | (go_at_call 31; refine HG.out.mono ?_; rintro e w1 ⟨rfl, hb⟩; simp only [boxV, Option.isSome])
      | (go_at_call 29; refine (asInt64_i64 _ _).mono ?_; rintro e w2 ⟨rfl, rfl⟩))
    go_ret3
    exact ⟨rfl, by assumption⟩
end Go.Proofs.Qxb6616542a
