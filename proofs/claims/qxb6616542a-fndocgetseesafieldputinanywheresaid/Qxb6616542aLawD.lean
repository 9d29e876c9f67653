import Derived.Test.Qxb6616542aDoc
import Derived.WalkKit
import Derived.WalkSpells
import Derived.WalkLawsBesides
namespace Go.Proofs.Qxb6616542a
open Go.RowKit
set_option linter.unusedVariables false

/-- the law's own end -/
def RT (w : World) (e : Ending) (w' : World) : Prop := e = .returned (.bool true) ∧ Below w.heap.size w w'

theorem own_cap {w : World} {base g n c e size : Nat} {xs : List Value} (h : w.ownsRow base e size (.slice (some ⟨g, 0, none⟩) n c) n xs) : n ≤ c ∧ c ≤ maxLen := by
  rcases h.2 with ⟨h0, _⟩ | ⟨g', c', cur, hv, _, _, h1, h2, _⟩
  · cases h0
  · cases hv; exact ⟨h1, h2⟩

theorem zzget_len (a : Option Addr) (n cap : Nat) (L : List (ByteArray × Int)) (key : ByteArray) (o : Option Int) (w : World)
    (hD : Docs w a L) (hl : L.length ≤ 1048577) (hn : L.length = n) (ho : Plain.get key L = o) :
    Calls Try.prog 25 #[.slice a n cap, .string key] w fun e w' => RZ o w e w' := by
  subst hn; subst ho; exact zzget_any a cap L key w hD hl

theorem Docs.rest {w : World} {g : Nat} {L : List (ByteArray × Int)} (h : Docs w (some ⟨g, 0, none⟩) L) (n : Nat) : Docs w (some ⟨g, n * 2, none⟩) (L.drop n) := by
  have := h.drop n
  rwa [Nat.zero_add] at this

theorem Docs.none_left {w : World} {a : Option Addr} {L : List (ByteArray × Int)} (n : Nat) (h : L.length ≤ n) : Docs w a (L.drop n) := by
  intro h0
  simp at h0
  omega

theorem Kvs.below {w w' : World} {a : Option Addr} {L : List (ByteArray × Int)} (h : Kvs w a L) (hb : Below w.heap.size w w') : Kvs w' a L := by
  intro h0
  obtain ⟨b, off, rfl, h2⟩ := h h0
  refine ⟨b, off, rfl, fun i p hp => ?_⟩
  obtain ⟨e0, e1⟩ := h2 i p hp
  exact ⟨(hb.cell (p := ⟨b, off + i * 2, none⟩) (World.block_lt_of_cell? w _ e0)).trans e0, (hb.cell (p := ⟨b, off + i * 2 + 1, none⟩) (World.block_lt_of_cell? w _ e1)).trans e1⟩

set_option maxRecDepth 100000 in
set_option maxHeartbeats 2000000 in
theorem lawD_core (a : Option Addr) (cap : Nat) (L : List (ByteArray × Int)) (n : Nat) (key : ByteArray) (o o1 o2 : Option Int) (w : World)
    (hK : Kvs w a L) (hl : L.length ≤ maxLen) (hs : ∀ p ∈ L, p.1.size ≤ maxLen) (hk : key.size ≤ 1048576) (hn : n ≤ L.length)
    (HO : Hid (Plain.get key L = o)) (HO1 : Hid (Plain.get key (L.take n) = o1)) (HO2 : Hid (Plain.get key (L.drop n) = o2)) (HE : Hid (o = o1.or o2)) :
    Calls Try.prog 6 #[.slice a L.length cap, .int .i64 n, .string key] w fun e w' => RT w e w' := by
  go_enter Try.func6, Try.ntmps6
  go_wp2_with fail
  refine (bytes22_any a cap L n key _ hK hl hs (by unfold maxLen; omega)).mono ?_
  rintro e w' ⟨r, rfl, hw, hr⟩
  subst hw
  cases r with
  | false =>
    go_wp2
    go_ret
    exact ⟨rfl, Below.refl _ _⟩
  | true =>
    have h0 := hr rfl
    clear hr
    go_wp2_with fail
    refine (tooBig_any a cap L _ _ hK h0 hs (by omega) (by omega)).mono ?_
    rintro e w2 ⟨r, rfl, hw, _⟩
    subst hw
    cases r with
    | true =>
      go_wp2
      go_ret
      exact ⟨rfl, Below.refl _ _⟩
    | false =>
      go_wp2_with fail
      refine (doc_any a cap L _ hK (by omega)).mono ?_
      rintro e w3 ⟨g, c, rfl, hown, hb3⟩
      obtain ⟨hc1, hc2⟩ := own_cap hown
      unfold maxLen at hc2
      have hD : Docs w3 (some ⟨g, 0, none⟩) L := docs_of_own hown
      go_wp2_with fail
      refine (zzget_len _ _ c L key o _ hD (by omega) rfl HO.out).mono ?_
      rintro e w4 ⟨rfl, hb4⟩
      have hg3 := (hown.lt g rfl).2
      have hD4 : Docs w4 (some ⟨g, 0, none⟩) L := hD.below hb4 (by rintro x ⟨rfl⟩; exact hg3)
      have hg4 : g < w4.heap.size := Nat.lt_of_lt_of_le hg3 hb4.size
      go_wp2_with fail
      refine (zzget_len _ _ c (L.take n) key o1 _ (hD4.take n) (by simp; omega) (by simp; omega) HO1.out).mono ?_
      rintro e w5 ⟨rfl, hb5⟩
      have hD5 : Docs w5 (some ⟨g, 0, none⟩) L := hD4.below hb5 (by rintro x ⟨rfl⟩; exact hg4)
      have hA : c = n → Docs w5 (some ⟨g, 0, none⟩) (L.drop n) := fun h => Docs.none_left n (by omega)
      have hB := hD5.rest n
      go_wp2_with fail
      all_goals
        refine (zzget_len _ _ _ (L.drop n) key o2 _ (by first | exact hB | exact hA (by assumption)) (by simp; omega) (by simp) HO2.out).mono ?_
        rintro e w6 ⟨rfl, hb6⟩
        have hbw : Below w2.heap.size w2 w6 := ((hb3.trans (hb4.mono hb3.size)).trans (hb5.mono (Nat.le_trans hb3.size hb4.size))).trans (hb6.mono (Nat.le_trans hb3.size (Nat.le_trans hb4.size hb5.size)))
        have hK6 := hK.below hbw
        clear hD hD4 hD5 hA hB hown hb3 hb4 hb5 hb6 hs
        clear hc1 hc2
        (try clear h)
        go_wp2
        go_loop [17, 18, 19] (fun f t i => ∃ (k : Nat) (x : Int), k ≤ L.length ∧ Hid (x + 1 = k) ∧ i = .int .i64 x ∧ f = .bool (Plain.get key (L.drop k)).isSome ∧ t = .int .i64 ((Plain.get key (L.drop k)).getD 0)) (fun _ _ i => (intOf i + 1).toNat)
        case atStart => exact ⟨L.length, _, Nat.le_refl _, (by simp [Hid]), rfl, by rw [Plain.get_end]; rfl, by rw [Plain.get_end]; rfl⟩
        case round =>
          obtain ⟨k, x, hkl, hx, rfl, rfl, rfl⟩ := hrel
          by_cases hx0 : x < 0
          · have hk0 : k = 0 := by have := hx.out; omega
            subst hk0
            rw [List.drop_zero, HO.out, HE.out]
            rcases o1 with _ | v1 <;> rcases o2 with _ | v2 <;> simp only [Option.or, Option.isSome, Option.getD]
            all_goals
              go_wp2
              go_ret
              exact ⟨rfl, hbw⟩
          · obtain ⟨m, rfl⟩ : ∃ m : Nat, x = m := ⟨x.toNat, by omega⟩
            have hkm : k = m + 1 := by have := hx.out; omega
            subst hkm
            obtain ⟨b, off, rfl, hc⟩ := hK6 (by omega)
            obtain ⟨c0, c1⟩ := hc m L[m] (by simp)
            clear hc hx
            cases ht : (L[m].1.toList == key.toList)
            · have HM : Hid (Plain.get key (L.drop m) = Plain.get key (L.drop (m + 1))) := Plain.get_miss key L m hkl ht
              go_wp2
              go_round
              case rel => exact ⟨m, _, by omega, by simp [Hid], rfl, by rw [HM.out], by rw [HM.out]⟩
              case measure => simp [intOf]
            · have HM : Hid (Plain.get key (L.drop m) = some L[m].2) := Plain.get_hit key L m hkl ht
              go_wp2
              go_round
              case rel => exact ⟨m, _, by omega, by simp [Hid], rfl, by rw [HM.out]; rfl, by rw [HM.out]; rfl⟩
              case measure => simp [intOf]
set_option maxRecDepth 100000 in
set_option maxHeartbeats 1000000 in
theorem lawD_out (a : Option Addr) (cap : Nat) (L : List (ByteArray × Int)) (cut : Int) (key : ByteArray) (w : World)
    (hK : Kvs w a L) (hl : L.length ≤ maxLen) (hs : ∀ p ∈ L, p.1.size ≤ maxLen) (hk : key.size ≤ 1048576) (hn : cut < 0 ∨ L.length < cut) :
    Calls Try.prog 6 #[.slice a L.length cap, .int .i64 cut, .string key] w fun e w' => RT w e w' := by
  go_enter Try.func6, Try.ntmps6
  go_wp2_with fail
  refine (bytes22_any a cap L cut key _ hK hl hs (by unfold maxLen; omega)).mono ?_
  rintro e w' ⟨r, rfl, hw, hr⟩
  subst hw
  cases r with
  | false =>
    go_wp2
    go_ret
    exact ⟨rfl, Below.refl _ _⟩
  | true =>
    have h0 := hr rfl
    clear hr
    go_wp2_with fail
    refine (tooBig_any a cap L _ _ hK h0 hs (by omega) (by omega)).mono ?_
    rintro e w2 ⟨r, rfl, hw, _⟩
    subst hw
    cases r with
    | true =>
      go_wp2
      go_ret
      exact ⟨rfl, Below.refl _ _⟩
    | false =>
      rcases hn with hn | hn
      · go_wp2
        go_ret
        exact ⟨rfl, Below.refl _ _⟩
      · go_wp2
        go_ret
        exact ⟨rfl, Below.refl _ _⟩

set_option maxRecDepth 100000 in
set_option maxHeartbeats 1000000 in
theorem lawD_long (a : Option Addr) (cap : Nat) (L : List (ByteArray × Int)) (cut : Int) (key : ByteArray) (w : World)
    (hK : Kvs w a L) (hl : L.length ≤ maxLen) (hs : ∀ p ∈ L, p.1.size ≤ maxLen) (hk : 1048576 < key.size) (hkm : key.size ≤ maxLen) :
    Calls Try.prog 6 #[.slice a L.length cap, .int .i64 cut, .string key] w fun e w' => RT w e w' := by
  have hkm' := hkm
  unfold maxLen at hkm'
  go_enter Try.func6, Try.ntmps6
  go_wp2_with fail
  refine (bytes22_any a cap L cut key _ hK hl hs hkm).mono ?_
  rintro e w' ⟨r, rfl, hw, hr⟩
  subst hw
  cases r with
  | false =>
    go_wp2
    go_ret
    exact ⟨rfl, Below.refl _ _⟩
  | true =>
    go_wp2
    go_ret
    exact ⟨rfl, Below.refl _ _⟩

theorem lawD_walk (a : Option Addr) (cap : Nat) (L : List (ByteArray × Int)) (cut : Int) (key : ByteArray) (w : World)
    (hK : Kvs w a L) (hl : L.length ≤ maxLen) (hs : ∀ p ∈ L, p.1.size ≤ maxLen) (hk : key.size ≤ maxLen) :
    Calls Try.prog 6 #[.slice a L.length cap, .int .i64 cut, .string key] w fun e w' => e = .returned (.bool true) ∧ Below w.heap.size w w' := by
  by_cases h1 : key.size ≤ 1048576
  · by_cases h2 : cut < 0 ∨ L.length < cut
    · exact lawD_out a cap L cut key w hK hl hs h1 h2
    · obtain ⟨n, rfl⟩ : ∃ n : Nat, cut = n := ⟨cut.toNat, by omega⟩
      exact lawD_core a cap L n key _ _ _ w hK hl hs h1 (by omega) rfl rfl rfl (Plain.get_cut key L n)
  · exact lawD_long a cap L cut key w hK hl hs (by omega) hk
end Go.Proofs.Qxb6616542a
