import Derived.Test.Qxb6617343aSegD
namespace Go.Proofs.Qxb6617343a

/-- what a script makes of row i -/
def rfold (KK : List (List UInt8)) (i : Int) (Z : SC) (r : RW) : RW := Z.foldl (fun r z => if idxL KK z.1 = i then rowF z.2 r else r) r
theorem rfold_append (KK : List (List UInt8)) (i : Int) (A C : SC) (r : RW) : rfold KK i (A ++ C) r = rfold KK i C (rfold KK i A r) := by simp [rfold]
theorem rfold_cons (KK : List (List UInt8)) (i : Int) (z : List UInt8 × VR) (C : SC) (r : RW) : rfold KK i (z :: C) r = rfold KK i C (if idxL KK z.1 = i then rowF z.2 r else r) := rfl
theorem stepR_at (idx : Int) (q : VR) (R : List RW) (i : Nat) : (stepR idx q R)[i]? = (R[i]?).map (fun r => if idx = (i : Int) then rowF q r else r) := by
  unfold stepR
  split
  · have h : ¬ idx = (i : Int) := by omega
    simp [h]
  · rw [List.getElem?_modify]
    cases R[i]? with
    | none => simp
    | some r =>
      by_cases h : idx = (i : Int)
      · have h1 : idx.toNat = i := by omega
        simp [h]
      · have h1 : idx.toNat ≠ i := by omega
        simp [h, h1]
theorem foldR_at (KK : List (List UInt8)) (i : Nat) : ∀ (Z : SC) (R : List RW), (foldR KK Z R)[i]? = (R[i]?).map (rfold KK (i : Int) Z)
  | [], R => by show R[i]? = (R[i]?).map (fun r => r); cases R[i]? <;> rfl
  | z :: Z, R => by
    have := foldR_at KK i Z (stepR (idxL KK z.1) z.2 R)
    rw [stepR_at] at this
    have e : foldR KK (z :: Z) R = foldR KK Z (stepR (idxL KK z.1) z.2 R) := rfl
    rw [e, this]
    cases R[i]? <;> rfl
theorem rfold_none (KK : List (List UInt8)) (i : Int) : ∀ (l : SC) (r : RW), (∀ z ∈ l, idxL KK z.1 ≠ i) → rfold KK i l r = r
  | [], _, _ => rfl
  | z :: l, r, h => by
    rw [rfold_cons, if_neg (h z (by simp))]
    exact rfold_none KK i l r fun x hx => h x (by simp [hx])
theorem rowF_v (q : VR) (r : RW) (h : q.d = true) : (rowF q r).v = r.v := by simp [rowF, h]
theorem rowF_k (q : VR) (r : RW) : (rowF q r).k = r.k := by unfold rowF; split <;> rfl
theorem rfold_del (KK : List (List UInt8)) (i : Int) : ∀ (l : SC) (r : RW), (∀ z ∈ l, idxL KK z.1 = i → z.2.d = true) → (rfold KK i l r).v = r.v
  | [], _, _ => rfl
  | z :: l, r, h => by
    rw [rfold_cons, rfold_del KK i l _ fun x hx => h x (by simp [hx])]
    split
    · rename_i e; exact rowF_v _ _ (h z (by simp) e)
    · rfl
theorem rfold_k (KK : List (List UInt8)) (i : Int) : ∀ (l : SC) (r : RW), (rfold KK i l r).k = r.k
  | [], _ => rfl
  | z :: l, r => by
    rw [rfold_cons, rfold_k KK i l]
    split
    · exact rowF_k _ _
    · rfl
theorem split_at (Z : SC) (p : Nat) (z : List UInt8 × VR) (h : Z[p]? = some z) : Z = Z.take p ++ z :: Z.drop (p + 1) := by
  obtain ⟨hp, hz⟩ := List.getElem?_eq_some_iff.1 h
  have h1 := (List.take_append_drop p Z).symm
  rw [List.drop_eq_getElem_cons hp, hz] at h1
  exact h1
theorem mem_drop (Z : SC) (p : Nat) (z : List UInt8 × VR) (h : z ∈ Z.drop (p + 1)) : ∃ x, p < x ∧ Z[x]? = some z := by
  obtain ⟨j, hj⟩ := List.mem_iff_getElem?.1 h
  rw [List.getElem?_drop] at hj
  exact ⟨p + 1 + j, by omega, hj⟩
theorem law_any (KK : List (List UInt8)) (i : Int) (Z : SC) (p : Nat) (z : List UInt8 × VR) (r : RW) (h : Z[p]? = some z) (hit : idxL KK z.1 = i) (hno : ∀ x z', p < x → Z[x]? = some z' → idxL KK z'.1 ≠ i) :
    (rfold KK i Z r).t = if z.2.d then 0 else z.2.t := by
  rw [split_at Z p z h, rfold_append, rfold_cons, if_pos hit, rfold_none]
  · unfold rowF; split <;> rfl
  · intro z' hz'
    obtain ⟨x, hx, hxz⟩ := mem_drop Z p z' hz'
    exact hno x z' hx hxz
theorem law_put (KK : List (List UInt8)) (i : Int) (Z : SC) (p : Nat) (z : List UInt8 × VR) (r : RW) (h : Z[p]? = some z) (hit : idxL KK z.1 = i) (hd : z.2.d = false) (hno : ∀ x z', p < x → Z[x]? = some z' → idxL KK z'.1 = i → z'.2.d = true) :
    (rfold KK i Z r).v = z.2.v := by
  rw [split_at Z p z h, rfold_append, rfold_cons, if_pos hit, rfold_del]
  · simp [rowF, hd]
  · intro z' hz'
    obtain ⟨x, hx, hxz⟩ := mem_drop Z p z' hz'
    exact hno x z' hx hxz
end Go.Proofs.Qxb6617343a
