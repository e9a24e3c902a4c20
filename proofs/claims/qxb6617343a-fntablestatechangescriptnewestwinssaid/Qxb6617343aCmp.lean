namespace Go.Proofs.Qxb6617343a

/-- bytewise order: -1, 0, 1 -/
def cmpL : List UInt8 → List UInt8 → Int
  | [], [] => 0
  | [], _ :: _ => -1
  | _ :: _, [] => 1
  | a :: x, b :: y => if (a.toNat : Int) < (b.toNat : Int) then -1 else if (b.toNat : Int) < (a.toNat : Int) then 1 else cmpL x y

theorem cmpL_self : ∀ l : List UInt8, cmpL l l = 0
  | [] => rfl
  | a :: x => by simp [cmpL, cmpL_self x]

theorem cmpL_eq : ∀ x y : List UInt8, cmpL x y = 0 ↔ x = y
  | [], [] => by simp [cmpL]
  | [], _ :: _ => by simp [cmpL]
  | _ :: _, [] => by simp [cmpL]
  | a :: x, b :: y => by
    unfold cmpL
    by_cases h1 : (a.toNat : Int) < (b.toNat : Int)
    · rw [if_pos h1]
      constructor
      · intro h; cases h
      · intro h; injection h with h _; subst h; omega
    · rw [if_neg h1]
      by_cases h2 : (b.toNat : Int) < (a.toNat : Int)
      · rw [if_pos h2]
        constructor
        · intro h; cases h
        · intro h; injection h with h _; subst h; omega
      · rw [if_neg h2, cmpL_eq x y]
        have e : a = b := UInt8.toNat_inj.1 (by omega)
        subst e; simp

theorem cmpL_range : ∀ x y : List UInt8, cmpL x y = -1 ∨ cmpL x y = 0 ∨ cmpL x y = 1
  | [], [] => by simp [cmpL]
  | [], _ :: _ => by simp [cmpL]
  | _ :: _, [] => by simp [cmpL]
  | a :: x, b :: y => by
    unfold cmpL
    by_cases h1 : (a.toNat : Int) < (b.toNat : Int)
    · rw [if_pos h1]; simp
    · rw [if_neg h1]
      by_cases h2 : (b.toNat : Int) < (a.toNat : Int)
      · rw [if_pos h2]; simp
      · rw [if_neg h2]; exact cmpL_range x y

theorem cmpL_trans : ∀ x y z : List UInt8, cmpL x y < 0 → cmpL y z < 0 → cmpL x z < 0
  | [], y, [], h, g => by
    cases y with
    | nil => simp [cmpL] at h
    | cons b y => simp [cmpL] at g
  | [], y, c :: z, h, g => by simp [cmpL]
  | a :: x, [], z, h, g => by simp [cmpL] at h
  | a :: x, b :: y, [], h, g => by simp [cmpL] at g
  | a :: x, b :: y, c :: z, h, g => by
    unfold cmpL at h g ⊢
    by_cases h1 : (a.toNat : Int) < (b.toNat : Int)
    · by_cases g1 : (b.toNat : Int) < (c.toNat : Int)
      · rw [if_pos (by omega)]; omega
      · rw [if_neg g1] at g
        by_cases g2 : (c.toNat : Int) < (b.toNat : Int)
        · rw [if_pos g2] at g; omega
        · rw [if_pos (by omega)]; omega
    · rw [if_neg h1] at h
      by_cases h2 : (b.toNat : Int) < (a.toNat : Int)
      · rw [if_pos h2] at h; omega
      · rw [if_neg h2] at h
        by_cases g1 : (b.toNat : Int) < (c.toNat : Int)
        · rw [if_pos (by omega)]; omega
        · rw [if_neg g1] at g
          by_cases g2 : (c.toNat : Int) < (b.toNat : Int)
          · rw [if_pos g2] at g; omega
          · rw [if_neg g2] at g
            rw [if_neg (by omega), if_neg (by omega)]
            exact cmpL_trans x y z h g

theorem cmpL_anti : ∀ x y : List UInt8, cmpL y x = - cmpL x y
  | [], [] => by simp [cmpL]
  | [], _ :: _ => by simp [cmpL]
  | _ :: _, [] => by simp [cmpL]
  | a :: x, b :: y => by
    unfold cmpL
    by_cases h1 : (a.toNat : Int) < (b.toNat : Int)
    · rw [if_pos h1, if_neg (by omega), if_pos h1]; rfl
    · by_cases h2 : (b.toNat : Int) < (a.toNat : Int)
      · rw [if_pos h2, if_neg h1, if_pos h2]
      · rw [if_neg h2, if_neg h1, if_neg h1, if_neg h2]; exact cmpL_anti x y

/-- one step of the scan -/
theorem cmpL_step (x y : List UInt8) (k : Nat) (hx : k < x.length) (hy : k < y.length) :
    cmpL (x.drop k) (y.drop k) = if (x[k].toNat : Int) < (y[k].toNat : Int) then -1 else if (y[k].toNat : Int) < (x[k].toNat : Int) then 1 else cmpL (x.drop (k + 1)) (y.drop (k + 1)) := by
  rw [List.drop_eq_getElem_cons hx, List.drop_eq_getElem_cons hy]; rfl
theorem cmpL_end (x y : List UInt8) (k : Nat) (hk : k ≤ x.length) (hk' : k ≤ y.length) (h : k = x.length ∨ k = y.length) :
    cmpL (x.drop k) (y.drop k) = if x.length < y.length then -1 else if y.length < x.length then 1 else 0 := by
  by_cases h1 : x.length < y.length
  · rw [if_pos h1]
    have e1 : x.drop k = [] := List.drop_of_length_le (by omega)
    rw [e1, List.drop_eq_getElem_cons (by omega : k < y.length)]; rfl
  · rw [if_neg h1]
    by_cases h2 : y.length < x.length
    · rw [if_pos h2]
      have e1 : y.drop k = [] := List.drop_of_length_le (by omega)
      rw [e1, List.drop_eq_getElem_cons (by omega : k < x.length)]; rfl
    · rw [if_neg h2]
      rw [List.drop_of_length_le (by omega), List.drop_of_length_le (by omega)]; rfl
end Go.Proofs.Qxb6617343a
