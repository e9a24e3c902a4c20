namespace Go.Proofs.Qxb6617310a.Gen
variable {α : Type}

/-- the first j elements of l, and z behind them -/
def cpy (z : α) (l : List α) (j : Nat) : List α := l.take j ++ List.replicate (l.length - j) z
theorem cpy_zero (z : α) (l : List α) : cpy z l 0 = List.replicate l.length z := by simp [cpy]
theorem cpy_all (z : α) (l : List α) : cpy z l l.length = l := by simp [cpy]
theorem cpy_len (z : α) (l : List α) (j : Nat) (h : j ≤ l.length) : (cpy z l j).length = l.length := by simp [cpy]; omega
theorem cpy_set (z : α) (l : List α) (j : Nat) (h : j < l.length) : (cpy z l j).set j l[j] = cpy z l (j + 1) := by
  unfold cpy
  have e : l.length - j = (l.length - (j + 1)) + 1 := by omega
  have hl : (l.take j).length = j := by simp; omega
  rw [List.set_append_right _ _ (by omega), hl, Nat.sub_self, e, List.replicate_succ, List.set_cons_zero, List.take_succ_eq_append_getElem h, List.append_assoc]
  rfl

/-- d put into l at place k -/
def ins (l : List α) (k : Nat) (d : α) : List α := l.take k ++ d :: l.drop k
theorem ins_len (l : List α) (k : Nat) (d : α) (h : k ≤ l.length) : (ins l k d).length = l.length + 1 := by simp [ins]; omega
theorem ins_lo (l : List α) (k : Nat) (d : α) (h : k ≤ l.length) (i : Nat) (hi : i < k) (h' : i < (ins l k d).length) : (ins l k d)[i] = l[i]'(by omega) := by
  have : (ins l k d)[i]? = l[i]? := by
    unfold ins; rw [List.getElem?_append_left (by simp; omega), List.getElem?_take, if_pos hi]
  rw [List.getElem?_eq_getElem h', List.getElem?_eq_getElem (by omega)] at this
  exact Option.some.inj this
theorem ins_at (l : List α) (k : Nat) (d : α) (h : k ≤ l.length) (h' : k < (ins l k d).length) : (ins l k d)[k] = d := by
  have hl : (l.take k).length = k := by simp; omega
  have : (ins l k d)[k]? = some d := by
    unfold ins; rw [List.getElem?_append_right (by omega), hl, Nat.sub_self]; rfl
  rw [List.getElem?_eq_getElem h'] at this
  exact Option.some.inj this
theorem ins_hi (l : List α) (k : Nat) (d : α) (h : k ≤ l.length) (i : Nat) (hi : k ≤ i) (hil : i < l.length) (h' : i + 1 < (ins l k d).length) : (ins l k d)[i + 1] = l[i] := by
  have hl : (l.take k).length = k := by simp; omega
  have : (ins l k d)[i + 1]? = l[i]? := by
    unfold ins; rw [List.getElem?_append_right (by omega), hl, show i + 1 - k = (i - k) + 1 from by omega, List.getElem?_cons_succ, List.getElem?_drop, show k + (i - k) = i from by omega]
  rw [List.getElem?_eq_getElem h', List.getElem?_eq_getElem hil] at this
  exact Option.some.inj this
theorem mem_ins (l : List α) (k : Nat) (d t : α) : t ∈ ins l k d ↔ t ∈ l ∨ t = d := by
  unfold ins
  have e : t ∈ l ↔ t ∈ l.take k ∨ t ∈ l.drop k := by
    conv => lhs; rw [← List.take_append_drop k l]
    exact List.mem_append
  rw [List.mem_append, List.mem_cons, e]
  constructor
  · rintro (h | h | h)
    · exact .inl (.inl h)
    · exact .inr h
    · exact .inl (.inr h)
  · rintro ((h | h) | h)
    · exact .inl h
    · exact .inr (.inr h)
    · exact .inr (.inl h)
theorem mem_cut (l : List α) (k : Nat) (t : α) : t ∈ l ↔ t ∈ l.take k ∨ t ∈ l.drop k := by
  conv => lhs; rw [← List.take_append_drop k l]
  exact List.mem_append
end Go.Proofs.Qxb6617310a.Gen
