import Derived.Test.Qxb6617343aSegF
namespace Go.Proofs.Qxb6617343a

theorem look_cons (q : List UInt8 × VR) (r : AM) (k : List UInt8) : look (q :: r) k = if q.1 = k then some q.2 else look r k := by
  have e : lookI (q :: r) k = if q.1 = k then some (0, q.2) else (lookI r k).map fun x => (x.1 + 1, x.2) := rfl
  unfold look
  rw [e]
  split
  · rfl
  · cases lookI r k <;> rfl
theorem look_upd_same : ∀ (M : AM) (k : List UInt8) (q : VR), look (upd M k q) k = some q
  | [], k, q => by unfold upd; rw [look_cons, if_pos rfl]
  | x :: r, k, q => by
    unfold upd
    split
    · rw [look_cons, if_pos rfl]
    · rename_i h; rw [look_cons, if_neg h]; exact look_upd_same r k q
theorem look_upd_ne : ∀ (M : AM) (k y : List UInt8) (q : VR), k ≠ y → look (upd M k q) y = look M y
  | [], k, y, q, h => by unfold upd; rw [look_cons, if_neg h]
  | x :: r, k, y, q, h => by
    unfold upd
    split
    · rename_i e; rw [look_cons, look_cons, if_neg h, if_neg (by rw [e]; exact h)]
    · rw [look_cons, look_cons, look_upd_ne r k y q h]
theorem upd_len : ∀ (M : AM) (k : List UInt8) (q : VR), (upd M k q).length = if (look M k).isSome then M.length else M.length + 1
  | [], k, q => rfl
  | x :: r, k, q => by
    unfold upd
    rw [look_cons]
    split
    · simp
    · rw [List.length_cons, upd_len r k q, List.length_cons]
      split <;> rfl
/-- the keys of a map -/
def keyP (M : AM) (x : List UInt8) : Bool := (look M x).isSome
theorem keyP_upd (M : AM) (k : List UInt8) (q : VR) (x : List UInt8) : keyP (upd M k q) x = (keyP M x || decide (x = k)) := by
  unfold keyP
  by_cases h : x = k
  · subst h; rw [look_upd_same]; simp
  · rw [look_upd_ne M k x q (Ne.symm h)]; simp [h]

/-- how many keys a script adds to the keys P -/
def addN (KK : List (List UInt8)) (P : List UInt8 → Bool) : SC → Nat
  | [] => 0
  | z :: r => (if idxL KK z.1 < 0 ∧ P z.1 = false ∧ z.1 ∉ r.map Prod.fst then 1 else 0) + addN KK P r
theorem addN_cons (KK : List (List UInt8)) (P : List UInt8 → Bool) (z : List UInt8 × VR) (r : SC) : addN KK P (z :: r) = (if idxL KK z.1 < 0 ∧ P z.1 = false ∧ z.1 ∉ r.map Prod.fst then 1 else 0) + addN KK P r := rfl
theorem addN_more (KK : List (List UInt8)) (P : List UInt8 → Bool) (k : List UInt8) (hk : idxL KK k < 0) (hP : P k = false) :
    ∀ r : SC, addN KK (fun x => P x || decide (x = k)) r + (if k ∈ r.map Prod.fst then 1 else 0) = addN KK P r
  | [] => rfl
  | z :: r => by
    have ih := addN_more KK P k hk hP r
    rw [addN_cons, addN_cons]
    by_cases e : z.1 = k
    · have h1 : ¬ (idxL KK z.1 < 0 ∧ (P z.1 || decide (z.1 = k)) = false ∧ z.1 ∉ r.map Prod.fst) := by simp [e]
      rw [if_neg h1, if_pos (by simp [e])]
      by_cases hr : k ∈ r.map Prod.fst
      · rw [if_pos hr] at ih
        rw [if_neg (by rw [e]; exact fun h => h.2.2 hr)]
        omega
      · rw [if_neg hr] at ih
        rw [if_pos (by rw [e]; exact ⟨hk, hP, hr⟩)]
        omega
    · have h1 : (k ∈ (z :: r).map Prod.fst) = (k ∈ r.map Prod.fst) := by
        rw [List.map_cons, List.mem_cons]
        exact propext ⟨fun h => h.resolve_left (Ne.symm e), .inr⟩
      have h2 : (P z.1 || decide (z.1 = k)) = P z.1 := by simp [e]
      rw [h2]
      simp only [h1]
      omega
theorem foldM_len (KK : List (List UInt8)) : ∀ (l : SC) (M : AM), (foldM KK l M).length = M.length + addN KK (keyP M) l
  | [], M => rfl
  | z :: r, M => by
    have ih := foldM_len KK r (stepM (idxL KK z.1) z.1 z.2 M)
    have e : foldM KK (z :: r) M = foldM KK r (stepM (idxL KK z.1) z.1 z.2 M) := rfl
    rw [e, ih]
    rw [addN_cons]
    by_cases hi : idxL KK z.1 < 0
    · have hs : stepM (idxL KK z.1) z.1 z.2 M = upd M z.1 z.2 := by unfold stepM; rw [if_pos hi]
      have hf : keyP (upd M z.1 z.2) = fun x => keyP M x || decide (x = z.1) := funext (keyP_upd M z.1 z.2)
      rw [hs, upd_len, hf]
      cases hk : keyP M z.1 with
      | true =>
        have hk' : (look M z.1).isSome = true := hk
        rw [if_pos hk', if_neg (by simp)]
        have : (fun x => keyP M x || decide (x = z.1)) = keyP M := funext fun x => by
          by_cases h : x = z.1
          · rw [h, hk]; rfl
          · simp [h]
        rw [this]; omega
      | false =>
        have hk' : ¬ (look M z.1).isSome = true := by
          have : (look M z.1).isSome = false := hk
          rw [this]; exact Bool.false_ne_true
        rw [if_neg hk']
        have h1 := addN_more KK (keyP M) z.1 hi hk r
        by_cases hr : z.1 ∈ r.map Prod.fst
        · rw [if_pos hr] at h1
          rw [if_neg (fun h => h.2.2 hr)]
          omega
        · rw [if_neg hr] at h1
          rw [if_pos ⟨hi, rfl, hr⟩]
          omega
    · have hs : stepM (idxL KK z.1) z.1 z.2 M = M := by unfold stepM; rw [if_neg hi]
      rw [hs, if_neg (fun h => hi h.1)]
      omega
/-- how many new keys the script names for the last time -/
def cntF (KK : List (List UInt8)) : SC → Nat
  | [] => 0
  | z :: r => (if idxL KK z.1 < 0 ∧ z.1 ∉ r.map Prod.fst then 1 else 0) + cntF KK r
theorem cntF_cons (KK : List (List UInt8)) (z : List UInt8 × VR) (r : SC) : cntF KK (z :: r) = (if idxL KK z.1 < 0 ∧ z.1 ∉ r.map Prod.fst then 1 else 0) + cntF KK r := rfl
theorem cnt_add (KK : List (List UInt8)) : ∀ l : SC, addN KK (keyP []) l = cntF KK l
  | [] => rfl
  | z :: r => by
    rw [addN_cons, cntF_cons, cnt_add KK r]
    have h : (idxL KK z.1 < 0 ∧ keyP [] z.1 = false ∧ z.1 ∉ r.map Prod.fst) ↔ (idxL KK z.1 < 0 ∧ z.1 ∉ r.map Prod.fst) := ⟨fun h => ⟨h.1, h.2.2⟩, fun h => ⟨h.1, rfl, h.2⟩⟩
    simp only [h]
theorem law_len (KK : List (List UInt8)) (Z : SC) : (foldM KK Z []).length = cntF KK Z := by
  rw [foldM_len, cnt_add]; simp
theorem look_fold (KK : List (List UInt8)) (k : List UInt8) : ∀ (l : SC) (M : AM), k ∉ l.map Prod.fst → look (foldM KK l M) k = look M k
  | [], _, _ => rfl
  | z :: r, M, h => by
    have e : foldM KK (z :: r) M = foldM KK r (stepM (idxL KK z.1) z.1 z.2 M) := rfl
    rw [e, look_fold KK k r _ (fun hh => h (by simp only [List.map_cons, List.mem_cons]; exact .inr hh))]
    unfold stepM
    split
    · exact look_upd_ne _ _ _ _ (fun hh => h (by simp [hh]))
    · rfl
theorem law_look (KK : List (List UInt8)) (Z : SC) (x : Nat) (z : List UInt8 × VR) (hz : Z[x]? = some z) (hi : idxL KK z.1 < 0) (hn : z.1 ∉ (Z.drop (x + 1)).map Prod.fst) : look (foldM KK Z []) z.1 = some z.2 := by
  have e : foldM KK Z [] = foldM KK (Z.drop (x + 1)) (stepM (idxL KK z.1) z.1 z.2 (foldM KK (Z.take x) [])) := by
    have := split_at Z x z hz
    conv => lhs; rw [this]
    simp [foldM]
  rw [e, look_fold KK z.1 _ _ hn]
  unfold stepM
  rw [if_pos hi, look_upd_same]
theorem cnt_step (KK : List (List UInt8)) (Z : SC) (x : Nat) (z : List UInt8 × VR) (hz : Z[x]? = some z) :
    cntF KK (Z.drop x) = (if idxL KK z.1 < 0 ∧ z.1 ∉ (Z.drop (x + 1)).map Prod.fst then 1 else 0) + cntF KK (Z.drop (x + 1)) := by
  obtain ⟨hp, he⟩ := List.getElem?_eq_some_iff.1 hz
  rw [List.drop_eq_getElem_cons hp, he]; rfl
end Go.Proofs.Qxb6617343a
