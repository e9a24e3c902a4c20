import Derived.Test.Qxb6617343aMem
import Derived.Lib.SliceRun
namespace Go.Proofs.Qxb6617343a
open Go.RowKit

/-- a slice's three words -/
structure SL where
  a : Option Addr
  n : Nat
  c : Nat
abbrev OB := Option (List UInt8)
def byL (o : OB) : List UInt8 := o.getD []

/-- the slice values T lie at address a -/
def OAt (w : World) (a : Option Addr) (T : List SL) : Prop :=
  T.length ≤ maxLen ∧ (0 < T.length → ∃ b off, a = some ⟨b, off, none⟩ ∧ ∀ (i : Nat) (h : i < T.length), w.cell? ⟨b, off + i, none⟩ = some (.slice T[i].a T[i].n T[i].c))
theorem OAt.drewN {w : World} {a : Option Addr} {T : List SL} (h : OAt w a T) (n : Nat) : OAt (w.drewN n) a T := h
/-- a slice of bytes reads as o -/
def IsV (w : World) (t : SL) (o : OB) : Prop := t.n = (byL o).length ∧ (t.a = none ↔ o = none) ∧ BAt w t.a (byL o)
theorem IsV.keep {w w' : World} {t : SL} {o : OB} (h : IsV w t o) (k : Keeps w w') : IsV w' t o := ⟨h.1, h.2.1, h.2.2.keep k⟩
theorem IsV.drewN {w : World} {t : SL} {o : OB} (h : IsV w t o) (n : Nat) : IsV (w.drewN n) t o := h

/-- zzSame: the same bytes, and nil just where the other is nil -/
def sameB (o p : OB) : Bool := decide (o = p)
theorem run_eql_nil (a : Option Addr) (l c : Nat) (w : World) : (binOp .eql 26 (.slice a l c) (.slice none 0 0)).run Try.prog w = .ok (.bool a.isNone) w :=
  Lib.run_eql_slice_nil w 26 5 a l c 0 0 Try.underlying26

theorem zzcmp_t (s t : SL) (o p : OB) (w : World) (h1 : IsV w s o) (h2 : IsV w t p) :
    Calls Try.prog 22 #[.slice s.a s.n s.c, .slice t.a t.n t.c] w fun e w' => e = .returned (.int .i64 (cmpL (byL o) (byL p))) ∧ ∃ n, w' = w.drewN n := by
  rw [h1.1, h2.1]
  exact zzcmp _ _ _ _ _ _ w h1.2.2 h2.2.2
/-- the same, the answer behind a name -/
theorem zzcmp_v (s t : SL) (o p : OB) (v : Int) (w : World) (h1 : Hid (IsV w s o)) (h2 : Hid (IsV w t p)) (hv : Hid (cmpL (byL o) (byL p) = v)) :
    Calls Try.prog 22 #[.slice s.a s.n s.c, .slice t.a t.n t.c] w fun e w' => e = .returned (.int .i64 v) ∧ ∃ n, w' = w.drewN n := by
  have := zzcmp_t s t o p w h1.out h2.out
  rw [hv.out] at this; exact this

set_option maxHeartbeats 1000000 in
theorem zzsame (s t : SL) (o p : OB) (w : World) (h1 : IsV w s o) (h2 : IsV w t p) :
    Calls Try.prog 15 #[.slice s.a s.n s.c, .slice t.a t.n t.c] w fun e w' => e = .returned (.bool (sameB o p)) ∧ ∃ n, w' = w.drewN n := by
  have H1 : Hid (IsV w s o) := h1
  have H2 : Hid (IsV w t p) := h2
  have e1 := h1.2.1
  have e2 := h2.2.1
  have hq := run_eql_nil
  clear h1 h2
  by_cases n1 : o = none
  · by_cases n2 : p = none
    · have a1 : s.a.isNone = true := by rw [e1.2 n1]; rfl
      have a2 : t.a.isNone = true := by rw [e2.2 n2]; rfl
      have HC : Hid (cmpL (byL o) (byL p) = 0) := by show _ = _; rw [n1, n2]; rfl
      have HR : Hid (sameB o p = true) := by show _ = _; rw [n1, n2]; rfl
      clear e1 e2
      go_enter Try.func15, Try.ntmps15
      go_wp2_with (go_at_call 22; refine (zzcmp_v _ _ _ _ _ _ H1 H2 HC).mono ?_; rintro e w' ⟨rfl, n, rfl⟩)
      go_ret
      exact ⟨ret_bool HR.out.symm, n, rfl⟩
    · have a1 : s.a.isNone = true := by rw [e1.2 n1]; rfl
      have a2 : t.a.isNone = false := by
        cases h : t.a with
        | none => exact absurd (e2.1 h) n2
        | some x => rfl
      have HR : Hid (sameB o p = false) := by show decide (o = p) = false; rw [n1]; simp [Ne.symm n2]
      clear e1 e2
      go_enter Try.func15, Try.ntmps15
      go_wp2
      go_ret
      exact ⟨ret_bool HR.out.symm, 0, rfl⟩
  · have a1 : s.a.isNone = false := by
      cases h : s.a with
      | none => exact absurd (e1.1 h) n1
      | some x => rfl
    by_cases n2 : p = none
    · have a2 : t.a.isNone = true := by rw [e2.2 n2]; rfl
      have HR : Hid (sameB o p = false) := by show decide (o = p) = false; rw [n2]; simp [n1]
      clear e1 e2
      go_enter Try.func15, Try.ntmps15
      go_wp2
      go_ret
      exact ⟨ret_bool HR.out.symm, 0, rfl⟩
    · have a2 : t.a.isNone = false := by
        cases h : t.a with
        | none => exact absurd (e2.1 h) n2
        | some x => rfl
      clear e1 e2
      obtain ⟨x, rfl⟩ : ∃ x, o = some x := by cases o with
        | none => exact absurd rfl n1
        | some x => exact ⟨x, rfl⟩
      obtain ⟨y, rfl⟩ : ∃ y, p = some y := by cases p with
        | none => exact absurd rfl n2
        | some y => exact ⟨y, rfl⟩
      obtain ⟨v, HC⟩ : ∃ v, Hid (cmpL (byL (some x)) (byL (some y)) = v) := ⟨_, rfl⟩
      by_cases hxy : x = y
      · have hv : v = 0 := by rw [← HC.out, cmpL_eq]; exact hxy
        subst hv
        have HR : Hid (sameB (some x) (some y) = true) := by show decide _ = true; simp [hxy]
        clear n1 n2 hxy
        go_enter Try.func15, Try.ntmps15
        go_wp2_with (go_at_call 22; refine (zzcmp_v _ _ _ _ _ _ H1 H2 HC).mono ?_; rintro e w' ⟨rfl, n, rfl⟩)
        go_ret
        exact ⟨ret_bool HR.out.symm, n, rfl⟩
      · have hv : (v == 0) = false := by
          rw [beq_eq_false_iff_ne]
          intro h
          rw [h] at HC
          exact hxy ((cmpL_eq _ _).1 HC.out)
        have HR : Hid (sameB (some x) (some y) = false) := by show decide _ = false; simp [hxy]
        clear n1 n2 hxy
        go_enter Try.func15, Try.ntmps15
        go_wp2_with (go_at_call 22; refine (zzcmp_v _ _ _ _ _ _ H1 H2 HC).mono ?_; rintro e w' ⟨rfl, n, rfl⟩)
        go_ret
        exact ⟨ret_bool HR.out.symm, n, rfl⟩

/-- the first place of y in L, or -1 -/
def idxL (L : List (List UInt8)) (y : List UInt8) (i : Int := 0) : Int :=
  match L with
  | [] => -1
  | x :: r => if x = y then i else idxL r y (i + 1)
theorem idxL_none : ∀ (L : List (List UInt8)) (y : List UInt8) (i : Int), (∀ x ∈ L, x ≠ y) → idxL L y i = -1
  | [], _, _, _ => rfl
  | x :: r, y, i, h => by
    unfold idxL; rw [if_neg (h x (by simp))]
    exact idxL_none r y (i + 1) fun z hz => h z (by simp [hz])
theorem idxL_at : ∀ (L : List (List UInt8)) (y : List UInt8) (i : Int) (k : Nat) (hk : k < L.length), L[k] = y → (∀ (j : Nat) (h : j < L.length), j < k → L[j] ≠ y) → idxL L y i = i + k
  | [], _, _, k, hk, _, _ => by simp at hk
  | x :: r, y, i, 0, hk, he, _ => by
    unfold idxL; rw [if_pos (by simpa using he)]; simp
  | x :: r, y, i, k + 1, hk, he, h => by
    unfold idxL; rw [if_neg (show x ≠ y from h 0 (by simp) (by omega))]
    have := idxL_at r y (i + 1) k (by simpa using hk) (by simpa using he) (fun j hj hjk => h (j + 1) (by simpa using hj) (by omega))
    rw [this]; simp; omega

set_option maxHeartbeats 1000000 in
theorem zzfind (a : Option Addr) (c : Nat) (T : List SL) (L : List OB) (t : SL) (p : OB) (w : World) (hl : T.length = L.length) (hT : OAt w a T) (hL : ∀ (i : Nat) (h : i < T.length) (h' : i < L.length), IsV w T[i] L[i]) (hp : IsV w t p) :
    Calls Try.prog 13 #[.slice a T.length c, .slice t.a t.n t.c] w fun e w' => e = .returned (.int .i64 (idxL (L.map byL) (byL p))) ∧ ∃ n, w' = w.drewN n := by
  have hmx := hT.1
  unfold maxLen at hmx
  have HT : Hid (OAt w a T) := hT
  have HL : Hid (∀ (i : Nat) (h : i < T.length) (h' : i < L.length), IsV w T[i] L[i]) := hL
  have HP : Hid (IsV w t p) := hp
  have HE : Hid (T.length = L.length) := hl
  clear hT hL hp hl
  go_enter Try.func13, Try.ntmps13
  go_wp2
  go_loopw [5] (fun i wr => ∃ k n : Nat, k ≤ T.length ∧ i = .int .i64 k ∧ wr = w.drewN n ∧ ∀ (j : Nat) (h : j < L.length), j < k → byL L[j] ≠ byL p) (fun i _ => T.length - (intOf i).toNat)
  case atStart => exact ⟨0, 0, Nat.zero_le _, rfl, rfl, fun j _ h => absurd h (Nat.not_lt_zero _)⟩
  case round =>
    obtain ⟨k, n, hk, rfl, rfl, hall⟩ := hrel
    have HA : Hid (∀ (j : Nat) (h : j < L.length), j < k → byL L[j] ≠ byL p) := hall
    clear hall
    by_cases hlt : k < T.length
    · obtain ⟨b, off, rfl, hc⟩ := HT.out.2 (by omega)
      have hck := hc k hlt
      have hkL : k < L.length := by rw [← HE.out]; exact hlt
      have HV : Hid (IsV (w.drewN n) T[k] L[k]) := HL.out k hlt hkL
      have HP' : Hid (IsV (w.drewN n) t p) := HP.out
      clear hc
      obtain ⟨v, HC⟩ : ∃ v, Hid (cmpL (byL L[k]) (byL p) = v) := ⟨cmpL (byL L[k]) (byL p), show Hid (_ = _) from rfl⟩
      by_cases he : byL L[k] = byL p
      · have hv : v = 0 := by rw [← HC.out, cmpL_eq]; exact he
        subst hv
        have HR : Hid (idxL (L.map byL) (byL p) = k) := by
          show _ = _
          rw [idxL_at (L.map byL) (byL p) 0 k (by simpa using hkL) (by simpa using he) (fun j hj hjk => by simpa using HA.out j (by simpa using hj) hjk)]; simp
        clear he
        go_wp2_with (go_at_call 22; refine (zzcmp_v _ _ _ _ _ _ HV HP' HC).mono ?_; rintro e w' ⟨rfl, m, rfl⟩)
        go_ret
        exact ⟨ret_int HR.out.symm, _, rfl⟩
      · have hv : (v == 0) = false := by
          rw [beq_eq_false_iff_ne]
          intro h
          rw [h] at HC
          exact he ((cmpL_eq _ _).1 HC.out)
        have HN : Hid (byL L[k] ≠ byL p) := he
        clear he
        go_wp2_with (go_at_call 22; refine (zzcmp_v _ _ _ _ _ _ HV HP' HC).mono ?_; rintro e w' ⟨rfl, m, rfl⟩)
        go_roundw
        case rel => exact ⟨k + 1, _, by omega, by go_num, rfl, fun j h hj => by
          by_cases e : j = k
          · subst e; exact HN.out
          · exact HA.out j h (by omega)⟩
        case measure => simp [intOf]; omega
    · have HR : Hid (idxL (L.map byL) (byL p) = -1) := idxL_none _ _ _ fun x hx => by
        obtain ⟨o, ho, rfl⟩ := List.mem_map.1 hx
        obtain ⟨j, hj, rfl⟩ := List.getElem_of_mem ho
        exact HA.out j hj (by rw [← HE.out] at hj; omega)
      go_wp2
      go_ret
      exact ⟨ret_int HR.out.symm, n, rfl⟩
end Go.Proofs.Qxb6617343a
