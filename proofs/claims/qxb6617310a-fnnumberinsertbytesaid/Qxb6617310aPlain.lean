namespace Go.Proofs.Qxb6617310a

/-- does one byte fit one byte of the layout? -/
def fitB (a l : UInt8) : Bool := if l.toNat = 48 then decide (48 ≤ a.toNat ∧ a.toNat ≤ 57) else decide (a.toNat = l.toNat)
def fitsL : List UInt8 → List UInt8 → Bool
  | [], _ => true
  | _ :: _, [] => false
  | a :: s, l :: m => fitB a l && fitsL s m

theorem fitsL_iff : ∀ (s l : List UInt8), s.length ≤ l.length → (fitsL s l = true ↔ ∀ (j : Nat) (h : j < s.length) (h' : j < l.length), fitB s[j] l[j] = true)
  | [], l, _ => by simp [fitsL]
  | a :: s, [], h => by simp at h
  | a :: s, l :: m, h => by
    have ih := fitsL_iff s m (by simpa using h)
    simp only [fitsL, Bool.and_eq_true, ih]
    constructor
    · rintro ⟨h0, h1⟩ j hj hj'
      cases j with
      | zero => simpa using h0
      | succ j => simpa using h1 j (by simpa using hj) (by simpa using hj')
    · intro h0
      exact ⟨h0 0 (by simp) (by simp), fun j hj hj' => h0 (j + 1) (by simpa using hj) (by simpa using hj')⟩

theorem fitB_self (l : UInt8) : fitB l l = true := by
  unfold fitB; split <;> simp <;> omega
theorem fitsL_self : ∀ l : List UInt8, fitsL l l = true
  | [] => rfl
  | l :: m => by simp [fitsL, fitB_self, fitsL_self m]

theorem fitsL_cut : ∀ (k : Nat) (s l : List UInt8), s.length = l.length → fitsL s l = (fitsL (s.take k) (l.take k) && fitsL (s.drop k) (l.drop k))
  | 0, s, l, _ => by simp [fitsL]
  | k + 1, [], l, _ => by simp [fitsL]
  | k + 1, a :: s, [], h => by simp at h
  | k + 1, a :: s, l :: m, h => by
    have ih := fitsL_cut k s m (by simpa using h)
    simp [fitsL, ih, Bool.and_assoc]

theorem fitsL_set : ∀ (l : List UInt8) (k : Nat) (h : k < l.length) (b : UInt8), fitsL (l.set k b) l = fitB b l[k]
  | [], k, h, b => by simp at h
  | a :: l, 0, h, b => by simp [fitsL, fitsL_self]
  | a :: l, k + 1, h, b => by
    have ih := fitsL_set l k (by simpa using h) b
    simp [fitsL, fitB_self, ih]

/-- the first j bytes of l, and zeros behind them -/
def cpy (l : List UInt8) (j : Nat) : List UInt8 := l.take j ++ List.replicate (l.length - j) 0
theorem cpy_zero (l : List UInt8) : cpy l 0 = List.replicate l.length 0 := by simp [cpy]
theorem cpy_all (l : List UInt8) : cpy l l.length = l := by simp [cpy]
theorem cpy_len (l : List UInt8) (j : Nat) (h : j ≤ l.length) : (cpy l j).length = l.length := by simp [cpy]; omega
theorem cpy_set (l : List UInt8) (j : Nat) (h : j < l.length) : (cpy l j).set j l[j] = cpy l (j + 1) := by
  unfold cpy
  have e : l.length - j = (l.length - (j + 1)) + 1 := by omega
  have hl : (l.take j).length = j := by simp; omega
  rw [List.set_append_right _ _ (by omega), hl, Nat.sub_self, e, List.replicate_succ, List.set_cons_zero, List.take_succ_eq_append_getElem h, List.append_assoc]
  rfl

end Go.Proofs.Qxb6617310a
