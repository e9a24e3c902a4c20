import Derived.Lib.ItoaNum
import Derived.Lib.ParseIntB
namespace Go.Proofs.Qxb6617343aDoor
open Go.Lib

def M64 : Nat := 18446744073709551615
/-- the parser, one digit at a time, as the law's own scan has it -/
def pm (acc : Nat) : List UInt8 → Option Nat
  | [] => some acc
  | c :: r => if 48 ≤ c.toNat ∧ c.toNat ≤ 57 then (if acc * 10 + (c.toNat - 48) ≤ M64 then pm (acc * 10 + (c.toNat - 48)) r else none) else none

theorem pm_cons (acc : Nat) (c : UInt8) (r : List UInt8) : pm acc (c :: r) = if 48 ≤ c.toNat ∧ c.toNat ≤ 57 then (if acc * 10 + (c.toNat - 48) ≤ M64 then pm (acc * 10 + (c.toNat - 48)) r else none) else none := rfl
theorem pm_parse : ∀ (l : List UInt8) (acc v : Nat), acc ≤ M64 → (parseUintM (2 ^ 64 - 1) acc l = .ok v ↔ pm acc l = some v)
  | [], acc, v, _ => by simp [parseUintM, pm]
  | c :: r, acc, v, ha => by
    unfold parseUintM pm
    by_cases h : 48 ≤ c.toNat ∧ c.toNat ≤ 57
    · rw [if_pos h, if_pos h]
      by_cases h1 : 1844674407370955162 ≤ acc
      · rw [if_pos h1, if_neg (by unfold M64; omega)]; simp
      · rw [if_neg h1]
        by_cases h2 : acc * 10 + (c.toNat - 48) ≤ M64
        · rw [if_neg (by unfold M64 at h2; omega), if_pos h2]
          exact pm_parse r _ v h2
        · rw [if_pos (by unfold M64 at h2; omega), if_neg h2]; simp
    · rw [if_neg h, if_neg h]; simp

theorem pm_append : ∀ (l r : List UInt8) (a v : Nat), pm a l = some v → pm a (l ++ r) = pm v r
  | [], r, a, v, h => by
    simp only [pm, Option.some.injEq] at h
    subst h; rfl
  | c :: l, r, a, v, h => by
    rw [List.cons_append, pm_cons]
    rw [pm_cons] at h
    by_cases h1 : 48 ≤ c.toNat ∧ c.toNat ≤ 57
    · rw [if_pos h1] at h ⊢
      by_cases h2 : a * 10 + (c.toNat - 48) ≤ M64
      · rw [if_pos h2] at h ⊢
        exact pm_append l r _ v h
      · rw [if_neg h2] at h; cases h
    · rw [if_neg h1] at h; cases h

theorem u8_dig (d : Nat) (h : d < 10) : (UInt8.ofNat (48 + d)).toNat = 48 + d := by simp; omega
theorem dig_u8 (c : UInt8) (h : 48 ≤ c.toNat) : UInt8.ofNat (48 + (c.toNat - 48)) = c := by
  rw [show 48 + (c.toNat - 48) = c.toNat by omega]; simp

theorem pm_one (a d : Nat) (hd : d < 10) (h : a * 10 + d ≤ M64) : pm a [UInt8.ofNat (48 + d)] = some (a * 10 + d) := by
  unfold pm
  rw [u8_dig d hd, if_pos (by omega), show 48 + d - 48 = d by omega, if_pos h]
  rfl

theorem pm_dec (u : Nat) (h : u ≤ M64) : pm 0 (decDigits u) = some u := by
  induction u using Nat.strongRecOn with
  | _ u ih =>
    by_cases h10 : u < 10
    · rw [decDigits_one h10, pm_one 0 u h10 (by omega)]; simp
    · have e : decDigits u = decDigits (u / 10) ++ [UInt8.ofNat (48 + u % 10)] := by
        conv => lhs; rw [decDigits, dif_neg h10]
      rw [e, pm_append _ _ 0 (u / 10) (ih (u / 10) (by omega) (by omega)), pm_one _ _ (by omega) (by omega)]
      congr 1; omega

theorem dec_step (v d : Nat) (hv : 0 < v) (hd : d < 10) : decDigits (v * 10 + d) = decDigits v ++ [UInt8.ofNat (48 + d)] := by
  conv => lhs; rw [decDigits, dif_neg (by omega)]
  rw [show (v * 10 + d) / 10 = v by omega, show (v * 10 + d) % 10 = d by omega]

theorem pm_back : ∀ (l : List UInt8) (v v' : Nat), 0 < v → pm v l = some v' → decDigits v' = decDigits v ++ l
  | [], v, v', _, h => by
    simp only [pm, Option.some.injEq] at h
    subst h; simp
  | c :: r, v, v', hv, h => by
    unfold pm at h
    by_cases h1 : 48 ≤ c.toNat ∧ c.toNat ≤ 57
    · rw [if_pos h1] at h
      by_cases h2 : v * 10 + (c.toNat - 48) ≤ M64
      · rw [if_pos h2] at h
        rw [pm_back r _ v' (by omega) h, dec_step v _ hv (by omega), dig_u8 c h1.1]; simp
      · rw [if_neg h2] at h; cases h
    · rw [if_neg h1] at h; cases h

theorem pm_canon (c : UInt8) (r : List UInt8) (v : Nat) (hc : c.toNat ≠ 48) (h : pm 0 (c :: r) = some v) : decDigits v = c :: r := by
  unfold pm at h
  by_cases h1 : 48 ≤ c.toNat ∧ c.toNat ≤ 57
  · rw [if_pos h1, if_pos (by unfold M64; omega)] at h
    have := pm_back r _ v (by omega) h
    rw [this, Nat.zero_mul, Nat.zero_add, decDigits_one (by omega), dig_u8 c h1.1]; rfl
  · rw [if_neg h1] at h; cases h

theorem pm_le : ∀ (l : List UInt8) (a v : Nat), a ≤ M64 → pm a l = some v → v ≤ M64
  | [], a, v, ha, h => by
    simp only [pm, Option.some.injEq] at h
    omega
  | c :: r, a, v, ha, h => by
    unfold pm at h
    by_cases h1 : 48 ≤ c.toNat ∧ c.toNat ≤ 57
    · rw [if_pos h1] at h
      by_cases h2 : a * 10 + (c.toNat - 48) ≤ M64
      · rw [if_pos h2] at h; exact pm_le r _ v h2 h
      · rw [if_neg h2] at h; cases h
    · rw [if_neg h1] at h; cases h

theorem parse_ok (l : List UInt8) (v : Nat) : parseUintB 64 l = .ok v ↔ l ≠ [] ∧ pm 0 l = some v := by
  unfold parseUintB
  by_cases h : l = []
  · rw [if_pos h]; simp [h]
  · rw [if_neg h, pm_parse l 0 v (by unfold M64; omega)]; simp [h]

/-- the first digit of a number that is not 0 is not '0' -/
theorem dec_head (u : Nat) (hu : 0 < u) : ∃ c r, decDigits u = c :: r ∧ c.toNat ≠ 48 := by
  induction u using Nat.strongRecOn with
  | _ u ih =>
    by_cases h10 : u < 10
    · exact ⟨_, [], decDigits_one h10, by rw [u8_dig u h10]; omega⟩
    · obtain ⟨c, r, e, hc⟩ := ih (u / 10) (by omega) (by omega)
      refine ⟨c, r ++ [UInt8.ofNat (48 + u % 10)], ?_, hc⟩
      conv => lhs; rw [decDigits, dif_neg h10]
      rw [e]; rfl
end Go.Proofs.Qxb6617343aDoor
