import Derived.Test.Qxb6616542aLawD
import Derived.WalkKit
import Derived.WalkSpells
import Derived.WalkLawsBesides
import Derived.Deep.AppendLies
namespace Go.Proofs.Qxb6616542a
open Go.RowKit
set_option linter.unusedVariables false

theorem info53 : (Try.prog.info? 53).map (fun i => (i.zero, i.size, i.bytes)) = some (some (.agg #[.string ⟨#[]⟩, .int .i64 0]), 2, 24) := by kernel_rfl

/-- the cells of a slice of KV, in a row -/
def flatK (L : List (ByteArray × Int)) : List Value := L.flatMap fun p => [.string p.1, .int .i64 p.2]

theorem flatK_snoc (L : List (ByteArray × Int)) (k : Nat) (p : ByteArray × Int) (h : L[k]? = some p) : flatK (L.take (k + 1)) = flatK (L.take k) ++ [.string p.1, .int .i64 p.2] := by
  unfold flatK
  rw [List.take_add_one, h, List.flatMap_append]
  simp

theorem flatK_at (L : List (ByteArray × Int)) (i : Nat) (p : ByteArray × Int) (h : L[i]? = some p) : (flatK L)[i * 2]? = some (.string p.1) ∧ (flatK L)[i * 2 + 1]? = some (.int .i64 p.2) := by
  induction L generalizing i with
  | nil => simp at h
  | cons q L ih =>
    cases i with
    | zero =>
      simp at h
      subst h
      exact ⟨rfl, rfl⟩
    | succ i =>
      simp at h
      have := ih i h
      have e1 : (i + 1) * 2 = i * 2 + 1 + 1 := by omega
      rw [e1]
      exact ⟨by simpa [flatK] using this.1, by simpa [flatK] using this.2⟩

theorem kvs_of_own {w : World} {base g n c : Nat} {L : List (ByteArray × Int)} (hn : L.length = n) (h : w.ownsRow base 53 2 (.slice (some ⟨g, 0, none⟩) n c) n (flatK L)) : Kvs w (some ⟨g, 0, none⟩) L := by
  intro h0
  refine ⟨g, 0, rfl, fun i p hp => ?_⟩
  have hi : i < L.length := by
    rcases Nat.lt_or_ge i L.length with h' | h'
    · exact h'
    · rw [List.getElem?_eq_none h'] at hp; cases hp
  obtain ⟨e0, e1⟩ := flatK_at L i p hp
  refine ⟨?_, ?_⟩
  · rw [show (0 + i * 2) = i * 2 by omega, h.cellAt (i * 2) (by omega)]; exact e0
  · rw [show (0 + i * 2 + 1) = i * 2 + 1 by omega, h.cellAt (i * 2 + 1) (by omega)]; exact e1

/-- the fields with one put in at n -/
def put (L : List (ByteArray × Int)) (n : Nat) (key : ByteArray) (v : Int) : List (ByteArray × Int) := L.take n ++ (key, v) :: L.drop n
theorem put_length (L : List (ByteArray × Int)) (n : Nat) (key : ByteArray) (v : Int) (h : n ≤ L.length) : (put L n key v).length = L.length + 1 := by
  unfold put; simp; omega
theorem put_before (L : List (ByteArray × Int)) (n : Nat) (key : ByteArray) (v : Int) (k : Nat) (h : k < n) (hk : k < L.length) : (put L n key v)[k]? = some L[k] := by
  unfold put
  rw [List.getElem?_append_left (by simp; omega), List.getElem?_take, if_pos h]
  simp [hk]
theorem put_here (L : List (ByteArray × Int)) (n : Nat) (key : ByteArray) (v : Int) (h : n ≤ L.length) : (put L n key v)[n]? = some (key, v) := by
  unfold put
  rw [List.getElem?_append_right (by simp; omega)]
  have e : n - (List.take n L).length = 0 := by simp; omega
  rw [e]
  rfl
theorem put_behind (L : List (ByteArray × Int)) (n : Nat) (key : ByteArray) (v : Int) (k : Nat) (h : n ≤ k) (hk : k < L.length) : (put L n key v)[k + 1]? = some L[k] := by
  unfold put
  rw [List.getElem?_append_right (by simp; omega)]
  have e : k + 1 - (List.take n L).length = (k - n) + 1 := by simp; omega
  rw [e, List.getElem?_cons_succ, List.getElem?_drop, show n + (k - n) = k by omega]
  simp [hk]

/-- zzDoc, its length a letter -/
def RD2 (n : Nat) (L : List (ByteArray × Int)) (w : World) (e : Ending) (w' : World) : Prop :=
  ∃ g c, e = .returned (.slice (some ⟨g, 0, none⟩) n c) ∧ n ≤ c ∧ c ≤ maxLen ∧ g < w'.heap.size ∧ Docs w' (some ⟨g, 0, none⟩) L ∧ Below w.heap.size w w'
theorem doc_len (a : Option Addr) (n cap : Nat) (L : List (ByteArray × Int)) (w : World) (hK : Kvs w a L) (hl : L.length ≤ 1048577) (hn : L.length = n) :
    Calls Try.prog 24 #[.slice a n cap] w fun e w' => RD2 n L w e w' := by
  subst hn
  refine (doc_any a cap L w hK hl).mono ?_
  rintro e w' ⟨g, c, rfl, hown, hb⟩
  obtain ⟨h1, h2⟩ := own_cap hown
  exact ⟨g, c, rfl, h1, h2, (hown.lt g rfl).2, docs_of_own hown, hb⟩

set_option maxRecDepth 100000 in
set_option maxHeartbeats 2000000 in
theorem lawE_core (a : Option Addr) (cap : Nat) (L : List (ByteArray × Int)) (n : Nat) (key : ByteArray) (val : Int) (other : ByteArray) (w : World)
    (hK : Kvs w a L) (hl : L.length ≤ maxLen) (hs : ∀ p ∈ L, p.1.size ≤ maxLen) (hk : key.size ≤ 1048576) (ho : other.size ≤ 1048576) (hn : n ≤ L.length) :
    Calls Try.prog 7 #[.slice a L.length cap, .int .i64 n, .string key, .int .i64 val, .string other] w fun e w' => RT w e w' := by
  obtain ⟨i0, hi, hz0, hz1, hz2⟩ := info_parts info53
  go_enter Try.func7, Try.ntmps7
  go_wp2_with fail
  refine (bytes26_any a cap L n val key other _ hK hl hs (by unfold maxLen; omega) (by unfold maxLen; omega)).mono ?_
  rintro e w' ⟨r, rfl, hw, hr⟩
  subst hw
  cases r with
  | false =>
    go_wp2
    go_ret
    exact ⟨rfl, Below.refl _ _⟩
  | true =>
    have h0 := hr rfl
    clear hr
    go_wp2_with fail
    refine (tooBig_any a cap L _ _ hK h0 hs (by omega) (by omega)).mono ?_
    rintro e w2 ⟨r, rfl, hw, _⟩
    subst hw
    cases r with
    | true =>
      go_wp2
      go_ret
      exact ⟨rfl, Below.refl _ _⟩
    | false =>
      clear hs
      go_wp2_with (at_make; refine wpList_make_own _ rfl _ _ 44 rfl w2.heap.size 53 i0 _ 2 Try.underlying44 hi hz0 hz1 _ _ _ (L.length + 1) rfl rfl (by omega) ?b2 ?b3 (Nat.le_refl _) ?_)
      case b2 => rw [hz2]; omega
      case b3 => unfold maxLen; omega
      intro w3 hown3 hgrow3
      go_wp2
      go_loopw [11, 12] (fun v i wr => ∃ (k g c : Nat), k ≤ n ∧ i = .int .i64 k ∧ v = .slice (some ⟨g, 0, none⟩) k c ∧ wr.ownsRow w2.heap.size 53 2 (.slice (some ⟨g, 0, none⟩) k c) k (flatK ((put L n key val).take k)) ∧ Below w2.heap.size w2 wr) (fun _ i _ => n - (intOf i).toNat)
      case atStart => exact ⟨0, w2.heap.size, L.length + 1, by omega, rfl, rfl, hown3, (Below.refl _ _).grown hgrow3 (Nat.le_refl _) (fun k h => by cases h)⟩
      case round =>
        clear hown3 hgrow3
        obtain ⟨k, g, c, hkn, rfl, rfl, hown, hb⟩ := hrel
        have hgl := hown.lt g rfl
        have hsz := hb.size
        by_cases hlt : k < n
        · obtain ⟨b, off, rfl, hc⟩ := hK.below hb (by omega)
          obtain ⟨c0, c1⟩ := hc k L[k] (by simp)
          have hsn := flatK_snoc _ k _ (put_before L n key val k hlt (by omega))
          have HSN : Hid (flatK ((put L n key val).take (k + 1)) = flatK ((put L n key val).take k) ++ [.string L[k].1, .int .i64 L[k].2]) := hsn
          clear hc hsn
          go_wp2_with (at_builtin; refine wpList_append_lies _ rfl _ _ _ rfl w2.heap.size 53 i0 _ 2 24 Try.underlying44 hi hz0 hz1 hz2 rfl (by omega) (.slice (some ⟨g, 0, none⟩) k c) k (flatK ((put L n key val).take k)) rfl (hown.alloc _) ⟨wr.heap.size, 0, none⟩ 1 1 [.string L[k].1, .int .i64 L[k].2] rfl rfl (World.news_of_block (cs := #[.string L[k].1, .int .i64 L[k].2]) (t := 53) (fr := (0, 0)) (heap_alloc_new wr _)) (by simp [Value.oneCell']) (by omega) (by unfold maxLen; omega) (by omega) (by simp; omega) (wr.heap.size + 1) (by simp) ?_; intro g' c' w1 hown1 hgrow hat hglt)
          go_wp2
          rw [← HSN.out] at hown1
          go_roundw
          case rel => exact ⟨k + 1, g', c', by omega, by go_num, rfl, hown1, (hb.alloc (by omega) _).grown hgrow (by simp; omega) (fun x hx => by cases hx; exact hgl.1)⟩
          case measure => simp [intOf]; omega
        · have hkn' : k = n := by omega
          subst hkn'
          have HSN : Hid (flatK ((put L k key val).take (k + 1)) = flatK ((put L k key val).take k) ++ [.string key, .int .i64 val]) := flatK_snoc _ k _ (put_here L k key val hn)
          have hpl := put_length L k key val hn
          have HPL : Hid ((put L k key val).length = L.length + 1) := hpl
          clear hpl
          go_wp2_with (at_builtin; refine wpList_append_lies _ rfl _ _ _ rfl w2.heap.size 53 i0 _ 2 24 Try.underlying44 hi hz0 hz1 hz2 rfl (by omega) (.slice (some ⟨g, 0, none⟩) k c) k (flatK ((put L k key val).take k)) rfl (hown.alloc _) ⟨wr.heap.size, 0, none⟩ 1 1 [.string key, .int .i64 val] rfl rfl (World.news_of_block (cs := #[.string key, .int .i64 val]) (t := 53) (fr := (0, 0)) (heap_alloc_new wr _)) (by simp [Value.oneCell']) (by omega) (by unfold maxLen; omega) (by omega) (by simp; omega) (wr.heap.size + 1) (by simp) ?_; intro g1 c1 w4 hown4 hgrow hat hglt)
          go_wp2
          rw [← HSN.out] at hown4
          have hb4 := (hb.alloc (by omega) _).grown hgrow (by simp; omega) (fun x hx => by cases hx; exact hgl.1)
          clear hown hgrow hat hglt HSN hb hgl hsz
          go_loopw [11, 13] (fun v i wr => ∃ (j g c : Nat), k ≤ j ∧ j ≤ L.length ∧ i = .int .i64 j ∧ v = .slice (some ⟨g, 0, none⟩) (j + 1) c ∧ wr.ownsRow w2.heap.size 53 2 (.slice (some ⟨g, 0, none⟩) (j + 1) c) (j + 1) (flatK ((put L k key val).take (j + 1))) ∧ Below w2.heap.size w2 wr) (fun _ i _ => L.length - (intOf i).toNat)
          case atStart => exact ⟨k, g1, c1, by omega, by omega, rfl, rfl, hown4, hb4⟩
          case round =>
            clear hown4 hb4
            obtain ⟨j, g, c, hkj, hjl, rfl, rfl, hown, hb⟩ := hrel
            have hgl := hown.lt g rfl
            have hsz := hb.size
            by_cases hlt2 : j < L.length
            · obtain ⟨b, off, rfl, hc⟩ := hK.below hb (by omega)
              obtain ⟨c0, c1'⟩ := hc j L[j] (by simp)
              have HSN : Hid (flatK ((put L k key val).take (j + 1 + 1)) = flatK ((put L k key val).take (j + 1)) ++ [.string L[j].1, .int .i64 L[j].2]) := flatK_snoc _ (j + 1) _ (put_behind L k key val j hkj hlt2)
              clear hc
              go_wp2_with (at_builtin; refine wpList_append_lies _ rfl _ _ _ rfl w2.heap.size 53 i0 _ 2 24 Try.underlying44 hi hz0 hz1 hz2 rfl (by omega) (.slice (some ⟨g, 0, none⟩) (j + 1) c) (j + 1) (flatK ((put L k key val).take (j + 1))) rfl (hown.alloc _) ⟨wr.heap.size, 0, none⟩ 1 1 [.string L[j].1, .int .i64 L[j].2] rfl rfl (World.news_of_block (cs := #[.string L[j].1, .int .i64 L[j].2]) (t := 53) (fr := (0, 0)) (heap_alloc_new wr _)) (by simp [Value.oneCell']) (by omega) (by unfold maxLen; omega) (by omega) (by simp; omega) (wr.heap.size + 1) (by simp) ?_; intro g' c' w1 hown1 hgrow hat hglt)
              go_wp2
              rw [← HSN.out] at hown1
              go_roundw
              case rel => exact ⟨j + 1, g', c', by omega, by omega, by go_num, rfl, hown1, (hb.alloc (by omega) _).grown hgrow (by simp; omega) (fun x hx => by cases hx; exact hgl.1)⟩
              case measure => simp [intOf]; omega
            · have hj' : j = L.length := by omega
              subst hj'
              rw [← HPL.out, List.take_length, HPL.out] at hown
              have hK2 : Kvs wr (some ⟨g, 0, none⟩) (put L k key val) := kvs_of_own HPL.out hown
              have hK1 := hK.below hb
              clear hown
              go_wp2_with fail
              refine (doc_len a _ cap L _ hK1 (by omega) rfl).mono ?_
              rintro e w5 ⟨g5, c5, rfl, hc5, hm5, hg5, hD5, hb5⟩
              unfold maxLen at hm5
              go_wp2_with fail
              refine (doc_len _ _ c (put L k key val) _ (hK2.below hb5) (by rw [HPL.out]; omega) HPL.out).mono ?_
              rintro e w6 ⟨g6, c6, rfl, hc6, hm6, hg6, hD6, hb6⟩
              unfold maxLen at hm6
              have hE6 : Docs w6 (some ⟨g5, 0, none⟩) L := hD5.below hb6 (by rintro x ⟨rfl⟩; exact hg5)
              have hg56 : g5 < w6.heap.size := Nat.lt_of_lt_of_le hg5 hb6.size
              have hbb6 : Below w2.heap.size w2 w6 := (hb.trans (hb5.mono hb.size)).trans (hb6.mono (Nat.le_trans hb.size hb5.size))
              have HG : Hid (Plain.get key (put L k key val) = (Plain.get key (L.take k)).or (some val)) := Plain.get_put key L k val
              have HGO : (other.toList == key.toList) = false → Plain.get other (put L k key val) = Plain.get other L := fun h => Plain.get_put_other key other L k val (by rw [Bool.eq_false_iff] at h ⊢; intro h'; exact h (by simp at h' ⊢; exact h'.symm))
              have HGO' : Hid ((other.toList == key.toList) = false → Plain.get other (put L k key val) = Plain.get other L) := HGO
              clear hK2 hK1 hD5 hb5 hb6 hb HGO hK
              generalize HA : Plain.get key (L.take k) = o at HG
              have HAH : Hid (Plain.get key (L.take k) = o) := HA
              clear HA
              generalize HB : Plain.get other L = q at HGO'
              have HBH : Hid (Plain.get other L = q) := HB
              clear HB
              go_wp2_with fail
              refine (zzget_len _ _ c5 (L.take k) key o _ (hE6.take k) (by simp; omega) (by simp; omega) HAH.out).mono ?_
              rintro e w7 ⟨rfl, hb7⟩
              have hE7 : Docs w7 (some ⟨g5, 0, none⟩) L := hE6.below hb7 (by rintro x ⟨rfl⟩; exact hg56)
              have hF7 : Docs w7 (some ⟨g6, 0, none⟩) (put L k key val) := hD6.below hb7 (by rintro x ⟨rfl⟩; exact hg6)
              have hbb7 : Below w2.heap.size w2 w7 := hbb6.trans (hb7.mono hbb6.size)
              have hg57 : g5 < w7.heap.size := Nat.lt_of_lt_of_le hg56 hb7.size
              have hg67 : g6 < w7.heap.size := Nat.lt_of_lt_of_le hg6 hb7.size
              clear hb7 hE6 hD6 hbb6
              go_wp2_with fail
              refine (zzget_len _ _ c6 (put L k key val) key (o.or (some val)) _ hF7 (by rw [HPL.out]; omega) HPL.out HG.out).mono ?_
              rintro e w8 ⟨rfl, hb8⟩
              have hE8 : Docs w8 (some ⟨g5, 0, none⟩) L := hE7.below hb8 (by rintro x ⟨rfl⟩; exact hg57)
              have hF8 : Docs w8 (some ⟨g6, 0, none⟩) (put L k key val) := hF7.below hb8 (by rintro x ⟨rfl⟩; exact hg67)
              have hbb8 : Below w2.heap.size w2 w8 := hbb7.trans (hb8.mono hbb7.size)
              have hg58 : g5 < w8.heap.size := Nat.lt_of_lt_of_le hg57 hb8.size
              have hg68 : g6 < w8.heap.size := Nat.lt_of_lt_of_le hg67 hb8.size
              clear hb8 hE7 hF7 hbb7
              cases hne : (other.toList == key.toList)
              · have HQ2 : Hid (Plain.get other (put L k key val) = q) := HGO'.out hne
                cases o with
                | none =>
                  simp only [Option.or, Option.isSome, Option.getD]
                  go_wp2_with fail
                  refine (zzget_len _ _ c5 L other q _ hE8 (by omega) rfl HBH.out).mono ?_
                  rintro e w9 ⟨rfl, hb9⟩
                  have hF9 : Docs w9 (some ⟨g6, 0, none⟩) (put L k key val) := hF8.below hb9 (by rintro x ⟨rfl⟩; exact hg68)
                  have hbb9 : Below w2.heap.size w2 w9 := hbb8.trans (hb9.mono hbb8.size)
                  go_wp2_with fail
                  refine (zzget_len _ _ c6 (put L k key val) other q _ hF9 (by rw [HPL.out]; omega) HPL.out HQ2.out).mono ?_
                  rintro e w10 ⟨rfl, hb10⟩
                  have hbb10 : Below w2.heap.size w2 w10 := hbb9.trans (hb10.mono hbb9.size)
                  go_wp2
                  go_ret
                  exact ⟨rfl, hbb10⟩
                | some v =>
                  simp only [Option.or, Option.isSome, Option.getD]
                  go_wp2_with fail
                  refine (zzget_len _ _ c5 L other q _ hE8 (by omega) rfl HBH.out).mono ?_
                  rintro e w9 ⟨rfl, hb9⟩
                  have hF9 : Docs w9 (some ⟨g6, 0, none⟩) (put L k key val) := hF8.below hb9 (by rintro x ⟨rfl⟩; exact hg68)
                  have hbb9 : Below w2.heap.size w2 w9 := hbb8.trans (hb9.mono hbb8.size)
                  go_wp2_with fail
                  refine (zzget_len _ _ c6 (put L k key val) other q _ hF9 (by rw [HPL.out]; omega) HPL.out HQ2.out).mono ?_
                  rintro e w10 ⟨rfl, hb10⟩
                  have hbb10 : Below w2.heap.size w2 w10 := hbb9.trans (hb10.mono hbb9.size)
                  go_wp2
                  go_ret
                  exact ⟨rfl, hbb10⟩
              · cases o with
                | none =>
                  simp only [Option.or, Option.isSome, Option.getD]
                  go_wp2
                  go_ret
                  exact ⟨rfl, hbb8⟩
                | some v =>
                  simp only [Option.or, Option.isSome, Option.getD]
                  go_wp2
                  go_ret
                  exact ⟨rfl, hbb8⟩
set_option maxRecDepth 100000 in
set_option maxHeartbeats 1000000 in
theorem lawE_out (a : Option Addr) (cap : Nat) (L : List (ByteArray × Int)) (p : Int) (key : ByteArray) (val : Int) (other : ByteArray) (w : World)
    (hK : Kvs w a L) (hl : L.length ≤ maxLen) (hs : ∀ p ∈ L, p.1.size ≤ maxLen) (hk : key.size ≤ 1048576) (ho : other.size ≤ 1048576) (hn : p < 0 ∨ L.length < p) :
    Calls Try.prog 7 #[.slice a L.length cap, .int .i64 p, .string key, .int .i64 val, .string other] w fun e w' => RT w e w' := by
  go_enter Try.func7, Try.ntmps7
  go_wp2_with fail
  refine (bytes26_any a cap L p val key other _ hK hl hs (by unfold maxLen; omega) (by unfold maxLen; omega)).mono ?_
  rintro e w' ⟨r, rfl, hw, hr⟩
  subst hw
  cases r with
  | false =>
    go_wp2
    go_ret
    exact ⟨rfl, Below.refl _ _⟩
  | true =>
    have h0 := hr rfl
    clear hr
    go_wp2_with fail
    refine (tooBig_any a cap L _ _ hK h0 hs (by omega) (by omega)).mono ?_
    rintro e w2 ⟨r, rfl, hw, _⟩
    subst hw
    cases r with
    | true =>
      go_wp2
      go_ret
      exact ⟨rfl, Below.refl _ _⟩
    | false =>
      rcases hn with hn | hn
      · go_wp2
        go_ret
        exact ⟨rfl, Below.refl _ _⟩
      · go_wp2
        go_ret
        exact ⟨rfl, Below.refl _ _⟩

set_option maxRecDepth 100000 in
set_option maxHeartbeats 1000000 in
theorem lawE_long (a : Option Addr) (cap : Nat) (L : List (ByteArray × Int)) (p : Int) (key : ByteArray) (val : Int) (other : ByteArray) (w : World)
    (hK : Kvs w a L) (hl : L.length ≤ maxLen) (hs : ∀ p ∈ L, p.1.size ≤ maxLen) (hkm : key.size ≤ maxLen) (hom : other.size ≤ maxLen) (h : 1048576 < key.size ∨ (key.size ≤ 1048576 ∧ 1048576 < other.size)) :
    Calls Try.prog 7 #[.slice a L.length cap, .int .i64 p, .string key, .int .i64 val, .string other] w fun e w' => RT w e w' := by
  have hkm' := hkm
  have hom' := hom
  unfold maxLen at hkm' hom'
  rcases h with h | ⟨h1, h2⟩
  · go_enter Try.func7, Try.ntmps7
    go_wp2_with fail
    refine (bytes26_any a cap L p val key other _ hK hl hs hkm hom).mono ?_
    rintro e w' ⟨r, rfl, hw, hr⟩
    subst hw
    cases r with
    | false =>
      go_wp2
      go_ret
      exact ⟨rfl, Below.refl _ _⟩
    | true =>
      go_wp2
      go_ret
      exact ⟨rfl, Below.refl _ _⟩
  · go_enter Try.func7, Try.ntmps7
    go_wp2_with fail
    refine (bytes26_any a cap L p val key other _ hK hl hs hkm hom).mono ?_
    rintro e w' ⟨r, rfl, hw, hr⟩
    subst hw
    cases r with
    | false =>
      go_wp2
      go_ret
      exact ⟨rfl, Below.refl _ _⟩
    | true =>
      go_wp2
      go_ret
      exact ⟨rfl, Below.refl _ _⟩

theorem lawE_walk (a : Option Addr) (cap : Nat) (L : List (ByteArray × Int)) (p : Int) (key : ByteArray) (val : Int) (other : ByteArray) (w : World)
    (hK : Kvs w a L) (hl : L.length ≤ maxLen) (hs : ∀ p ∈ L, p.1.size ≤ maxLen) (hk : key.size ≤ maxLen) (ho : other.size ≤ maxLen) :
    Calls Try.prog 7 #[.slice a L.length cap, .int .i64 p, .string key, .int .i64 val, .string other] w fun e w' => e = .returned (.bool true) ∧ Below w.heap.size w w' := by
  by_cases h1 : key.size ≤ 1048576
  · by_cases h3 : other.size ≤ 1048576
    · by_cases h2 : p < 0 ∨ L.length < p
      · exact lawE_out a cap L p key val other w hK hl hs h1 h3 h2
      · obtain ⟨n, rfl⟩ : ∃ n : Nat, p = n := ⟨p.toNat, by omega⟩
        exact lawE_core a cap L n key val other w hK hl hs h1 h3 (by omega)
    · exact lawE_long a cap L p key val other w hK hl hs hk ho (.inr ⟨h1, by omega⟩)
  · exact lawE_long a cap L p key val other w hK hl hs hk ho (.inl (by omega))
end Go.Proofs.Qxb6616542a
