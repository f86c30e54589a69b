import Derived.Test.Qxb6614843aPlain
namespace Go.Proofs.Qxb6614843a

section
variable {cs : List (List UInt8)} {J : List UInt8} {st m : Nat}
theorem join_app (c : List UInt8) (r : List (List UInt8)) : ∃ t, Lib.join (c :: r) [44] = c ++ t := ⟨_, Lib.join_cons _ _ _⟩

/-- The character at place j of the column m. -/
theorem at_char (hd : J.drop st = Lib.join (cs.drop m) [44]) (hm : m < cs.length) {j : Nat} (hj : j < cs[m].length) : J[st + j]? = some cs[m][j] := by
  rw [← List.getElem?_drop, hd, List.drop_eq_getElem_cons hm]
  obtain ⟨t, ht⟩ := join_app cs[m] (cs.drop (m + 1))
  rw [ht, List.getElem?_append_left hj]
  exact List.getElem?_eq_getElem hj

theorem le_len (hd : J.drop st = Lib.join (cs.drop m) [44]) (hm : m < cs.length) (hst : st ≤ J.length) : st + cs[m].length ≤ J.length := by
  have h1 : (J.drop st).length = J.length - st := by simp
  rw [hd, List.drop_eq_getElem_cons hm] at h1
  obtain ⟨t, ht⟩ := join_app cs[m] (cs.drop (m + 1))
  rw [ht, List.length_append] at h1
  omega

theorem at_end (hd : J.drop st = Lib.join (cs.drop m) [44]) (hm : m < cs.length) (hst : st ≤ J.length) (hl : cs.length = m + 1) : st + cs[m].length = J.length := by
  have h1 : (J.drop st).length = J.length - st := by simp
  rw [hd, List.drop_eq_getElem_cons hm, List.drop_of_length_le (by omega), Lib.join_one] at h1
  omega

theorem at_comma (hd : J.drop st = Lib.join (cs.drop m) [44]) (hl : m + 1 < cs.length) : J[st + cs[m].length]? = some 44 ∧ J.drop (st + cs[m].length + 1) = Lib.join (cs.drop (m + 1)) [44] := by
  have hm : m < cs.length := by omega
  have e : J.drop st = cs[m] ++ 44 :: Lib.join (cs.drop (m + 1)) [44] := by
    rw [hd, List.drop_eq_getElem_cons hm, List.drop_eq_getElem_cons hl, join_two]
  constructor
  · rw [← List.getElem?_drop, e, List.getElem?_append_right (Nat.le_refl _)]
    simp
  · rw [Nat.add_assoc, ← List.drop_drop, e, List.drop_append]
    simp
end

/-- The text behind the first fifteen bytes. -/
def restL (t : List UInt8) (cs : List (List UInt8)) : List UInt8 := t ++ 46 :: Lib.join cs [44]
theorem name_rest (t : List UInt8) (cs : List (List UInt8)) : nameL t cs = pre15 ++ restL t cs := by simp [nameL, restL]
theorem name_at {t : List UInt8} {cs : List (List UInt8)} {i : Nat} : (nameL t cs)[15 + i]? = (restL t cs)[i]? := by
  rw [name_rest, List.getElem?_append_right (by simp [pre15])]
  simp [pre15]
theorem name_head {t : List UInt8} {cs : List (List UInt8)} {i : Nat} (h : i < 15) : (nameL t cs)[i]? = pre15[i]? := by
  rw [name_rest, List.getElem?_append_left (by simpa [pre15] using h)]
theorem rest_table {t : List UInt8} {cs : List (List UInt8)} {i : Nat} (h : i < t.length) : (restL t cs)[i]? = some t[i] := by
  rw [restL, List.getElem?_append_left h, List.getElem?_eq_getElem h]
theorem rest_dot {t : List UInt8} {cs : List (List UInt8)} : (restL t cs)[t.length]? = some 46 := by
  rw [restL, List.getElem?_append_right (Nat.le_refl _)]; simp
theorem rest_cols {t : List UInt8} {cs : List (List UInt8)} {i : Nat} : (restL t cs)[t.length + 1 + i]? = (Lib.join cs [44])[i]? := by
  rw [restL, List.getElem?_append_right (by omega), show t.length + 1 + i - t.length = i + 1 from by omega]; simp
theorem rest_length (t : List UInt8) (cs : List (List UInt8)) : (restL t cs).length = t.length + 1 + (Lib.join cs [44]).length := by
  simp [restL]; omega
theorem name_length (t : List UInt8) (cs : List (List UInt8)) : (nameL t cs).length = 15 + (t.length + 1 + (Lib.join cs [44]).length) := by
  rw [name_rest, List.length_append, rest_length]; rfl
end Go.Proofs.Qxb6614843a
