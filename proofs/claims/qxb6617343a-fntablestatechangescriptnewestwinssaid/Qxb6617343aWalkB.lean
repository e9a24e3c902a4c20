import Derived.Test.Qxb6617343aWalkA
namespace Go.Proofs.Qxb6617343a
open Go.RowKit

/-- zzAscending's answer -/
def Z8 (L : List OB) (w : World) (e : Ending) (w' : World) : Prop :=
  ∃ b : Bool, e = .returned (.bool b) ∧ (∃ n, w' = w.drewN n) ∧ (b = true → ∀ (i : Nat) (h : i + 1 < L.length), cmpL (byL (L[i]'(by omega))) (byL L[i + 1]) < 0)
theorem Z8.no (L : List OB) (w : World) (n : Nat) : Z8 L w (.returned (.bool false)) (w.drewN n) := ⟨false, rfl, ⟨n, rfl⟩, fun h => by cases h⟩
theorem Z8.yes (L : List OB) (w : World) (n : Nat) (h : ∀ (i : Nat) (h : i + 1 < L.length), cmpL (byL (L[i]'(by omega))) (byL L[i + 1]) < 0) : Z8 L w (.returned (.bool true)) (w.drewN n) := ⟨true, rfl, ⟨n, rfl⟩, fun _ => h⟩

set_option maxHeartbeats 1000000 in
theorem zzasc (a : Option Addr) (c : Nat) (T : List SL) (L : List OB) (w : World) (hl : T.length = L.length) (hT : OAt w a T) (hL : ∀ (i : Nat) (h : i < T.length) (h' : i < L.length), IsV w T[i] L[i]) :
    Calls Try.prog 8 #[.slice a T.length c] w fun e w' => Z8 L w e w' := by
  have hmx := hT.1
  unfold maxLen at hmx
  have HT : Hid (OAt w a T) := hT
  have HL : Hid (∀ (i : Nat) (h : i < T.length) (h' : i < L.length), IsV w T[i] L[i]) := hL
  have HE : Hid (T.length = L.length) := hl
  clear hT hL hl
  go_enter Try.func8, Try.ntmps8
  go_wp2
  go_loopw [3] (fun i wr => ∃ k n : Nat, (k ≤ T.length ∨ k = 1) ∧ 1 ≤ k ∧ i = .int .i64 k ∧ wr = w.drewN n ∧ ∀ (j : Nat) (h : j + 1 < L.length), j + 1 < k → cmpL (byL (L[j]'(by omega))) (byL L[j + 1]) < 0) (fun i _ => T.length - (intOf i).toNat)
  case atStart => exact ⟨1, 0, Or.inr rfl, Nat.le_refl _, rfl, rfl, fun j _ h => by omega⟩
  case round =>
    obtain ⟨k, n, hk, hk1, rfl, rfl, hall⟩ := hrel
    have HA : Hid (∀ (j : Nat) (h : j + 1 < L.length), j + 1 < k → cmpL (byL (L[j]'(by omega))) (byL L[j + 1]) < 0) := hall
    clear hall
    by_cases hlt : k < T.length
    · obtain ⟨b, off, rfl, hc⟩ := HT.out.2 (by omega)
      obtain ⟨m, rfl⟩ : ∃ m, k = m + 1 := ⟨k - 1, by omega⟩
      have hck := hc (m + 1) hlt
      have hcm := hc m (by omega)
      have hkL : m + 1 < L.length := by rw [← HE.out]; exact hlt
      have hV1 : IsV (w.drewN n) (T[m]'(by omega)) (L[m]'(by omega)) := HL.out m (by omega) (by omega)
      have hV2 : IsV (w.drewN n) T[m + 1] L[m + 1] := HL.out (m + 1) hlt hkL
      clear hc
      have HV1 : Hid (IsV (w.drewN n) (T[m]'(by omega)) (L[m]'(by omega))) := hV1
      have HV2 : Hid (IsV (w.drewN n) T[m + 1] L[m + 1]) := hV2
      clear hV1 hV2
      obtain ⟨v, HC⟩ : ∃ v, Hid (cmpL (byL (L[m]'(by omega))) (byL L[m + 1]) = v) := ⟨cmpL (byL (L[m]'(by omega))) (byL L[m + 1]), show Hid (_ = _) from rfl⟩
      generalize hwn : w.drewN n = w1 at HV1 HV2 ⊢
      have HW : Hid (w.drewN n = w1) := hwn
      have hck' : w1.cell? ⟨b, off + (m + 1), none⟩ = some (.slice T[m + 1].a T[m + 1].n T[m + 1].c) := by rw [← hwn]; exact hck
      have hcm' : w1.cell? ⟨b, off + m, none⟩ = some (.slice (T[m]'(by omega)).a (T[m]'(by omega)).n (T[m]'(by omega)).c) := by rw [← hwn]; exact hcm
      clear hwn hck hcm
      by_cases hneg : v < 0
      · go_wp2
        go_quiet ((go_at_call 22; exact Calls.quiet_of (zzcmp_v _ _ _ _ _ _ (show Hid _ from HV1.out.drewN _) (show Hid _ from HV2.out.drewN _) HC)))
        go_wp2
        go_roundw
        case rel => exact ⟨m + 1 + 1, n + nq, Or.inl (by omega), by omega, by go_num, by rw [← HW.out, World.drewN_drewN], fun j h hj => by
          by_cases e : j = m
          · subst e; rw [HC.out]; exact hneg
          · exact HA.out j h (by omega)⟩
        case measure => simp [intOf]; omega
      · go_wp2
        go_quiet ((go_at_call 22; exact Calls.quiet_of (zzcmp_v _ _ _ _ _ _ (show Hid _ from HV1.out.drewN _) (show Hid _ from HV2.out.drewN _) HC)))
        go_wp2
        go_ret
        rw [← HW.out, World.drewN_drewN]
        exact Z8.no L w _
    · go_wp2
      go_ret
      exact Z8.yes L w n fun i h => HA.out i h (by rw [← HE.out] at h; omega)

/-- zzSizeOver's answer: some number of no great size -/
def Z6 (w : World) (e : Ending) (w' : World) : Prop := ∃ r : Int, e = .returned (.int .i64 r) ∧ w' = w ∧ 0 ≤ r ∧ r ≤ 1048577
theorem Z6.mk (w : World) (r : Int) (h0 : 0 ≤ r) (h1 : r ≤ 1048577) : Z6 w (.returned (.int .i64 r)) w := ⟨r, rfl, rfl, h0, h1⟩

set_option maxHeartbeats 1000000 in
theorem zzsize (tot : Int) (a : Option Addr) (c : Nat) (T : List SL) (w : World) (h0 : 0 ≤ tot) (h1 : tot ≤ 1048577) (hT : OAt w a T) (hn : ∀ (i : Nat) (h : i < T.length), T[i].n ≤ maxLen) :
    Calls Try.prog 6 #[.int .i64 tot, .slice a T.length c] w fun e w' => Z6 w e w' := by
  have hmx := hT.1
  unfold maxLen at hmx hn
  have HT : Hid (OAt w a T) := hT
  have HN : Hid (∀ (i : Nat) (h : i < T.length), T[i].n ≤ 2 ^ 63 - 1) := hn
  clear hT hn
  go_enter Try.func6, Try.ntmps6
  go_wp2
  go_loop [0, 5] (fun z i => ∃ (k : Nat) (r : Int), k ≤ T.length ∧ i = .int .i64 k ∧ z = .int .i64 r ∧ 0 ≤ r ∧ r ≤ 1048577) (fun _ i => T.length - (intOf i).toNat)
  case atStart => exact ⟨0, tot, Nat.zero_le _, rfl, rfl, h0, h1⟩
  case round =>
    obtain ⟨k, r, hk, rfl, rfl, hr0, hr1⟩ := hrel
    by_cases hlt : k < T.length
    · obtain ⟨b, off, rfl, hc⟩ := HT.out.2 (by omega)
      have hck := hc k hlt
      have hnk := HN.out k hlt
      clear hc
      by_cases hbig : T[k].n ≤ 1048576
      · by_cases hsum : r + 24 + T[k].n ≤ 1048576
        · go_wp2
          go_round
          case rel => exact ⟨k + 1, r + 24 + T[k].n, by omega, by go_num, rfl, by omega, by omega⟩
          case measure => simp [intOf]; omega
        · go_wp2
          go_ret
          exact Z6.mk w _ (by omega) (by omega)
      · go_wp2
        go_ret
        exact Z6.mk w _ (by omega) (by omega)
    · go_wp2
      go_ret
      exact Z6.mk w _ hr0 hr1
end Go.Proofs.Qxb6617343a
