/- The plain law: the first field of a list that bears a key. No Go in sight. -/
namespace Go.Proofs.Qxb6616542a.Plain

/-- the value of the first field that bears the key -/
def get (key : ByteArray) : List (ByteArray × Int) → Option Int
  | [] => none
  | p :: l => if (p.1.toList == key.toList) = true then some p.2 else get key l

theorem get_append (key : ByteArray) (l m : List (ByteArray × Int)) : get key (l ++ m) = (get key l).or (get key m) := by
  induction l with
  | nil => simp [get]
  | cons p l ih =>
    simp only [List.cons_append, get]
    split
    · rfl
    · exact ih

theorem get_cut (key : ByteArray) (l : List (ByteArray × Int)) (n : Nat) : get key l = (get key (l.take n)).or (get key (l.drop n)) := by
  rw [← get_append, List.take_append_drop]

theorem get_hit (key : ByteArray) (l : List (ByteArray × Int)) (k : Nat) (h : k < l.length) (hk : (l[k].1.toList == key.toList) = true) : get key (l.drop k) = some l[k].2 := by
  rw [List.drop_eq_getElem_cons h]
  simp only [get, hk, if_true]

theorem get_miss (key : ByteArray) (l : List (ByteArray × Int)) (k : Nat) (h : k < l.length) (hk : (l[k].1.toList == key.toList) = false) : get key (l.drop k) = get key (l.drop (k + 1)) := by
  rw [List.drop_eq_getElem_cons h]
  simp only [get, hk, Bool.false_eq_true, if_false]

theorem get_end (key : ByteArray) (l : List (ByteArray × Int)) : get key (l.drop l.length) = none := by simp [get]

/-- a field put in at n -/
theorem get_put (key : ByteArray) (l : List (ByteArray × Int)) (n : Nat) (v : Int) : get key (l.take n ++ (key, v) :: l.drop n) = (get key (l.take n)).or (some v) := by
  rw [get_append]
  simp [get]

theorem get_put_other (key other : ByteArray) (l : List (ByteArray × Int)) (n : Nat) (v : Int) (h : (key.toList == other.toList) = false) : get other (l.take n ++ (key, v) :: l.drop n) = get other l := by
  rw [get_append, get_cut other l n]
  simp only [get, h, Bool.false_eq_true, if_false]

end Go.Proofs.Qxb6616542a.Plain
