import Derived.Test.Qxb6617310aRows
import Derived.Test.Qxb6617310aPlain
import Derived.WalkKit
import Derived.ProofKit
import Derived.BigQuiet
namespace Go.Proofs.Qxb6617310a
open Go.RowKit

theorem ret_bool {a b : Bool} (h : a = b) : Ending.returned (.bool a) = .returned (.bool b) := by rw [h]

theorem fitsL_no (s l : ByteArray) (hsl : s.size ≤ l.size) (k : Nat) (hk : k < s.size) (hk' : k < l.size) (h : fitB s[k] l[k] = false) : fitsL s.data.toList l.data.toList = false := by
  cases hq : fitsL s.data.toList l.data.toList with
  | false => rfl
  | true =>
    have := (fitsL_iff _ _ (by simpa using hsl)).1 hq k (by simpa using hk) (by simpa using hk')
    have h2 : fitB s[k] l[k] = true := this
    rw [h] at h2; cases h2
theorem fitsL_yes (s l : ByteArray) (hsl : s.size ≤ l.size) (h : ∀ (j : Nat) (hj : j < s.size) (hj' : j < l.size), fitB s[j] l[j] = true) : fitsL s.data.toList l.data.toList = true :=
  (fitsL_iff _ _ (by simpa using hsl)).2 fun j hj hj' => h j (by simpa using hj) (by simpa using hj')

set_option maxHeartbeats 400000 in
theorem fits_any (s l : ByteArray) (w : World) (hsl : s.size ≤ l.size) (hl : l.size ≤ maxLen) :
    Calls Try.prog 15 #[.string s, .string l] w fun e w' => e = .returned (.bool (fitsL s.data.toList l.data.toList)) ∧ ∃ n, w' = w.drewN n := by
  unfold maxLen at hl
  go_enter Try.func15, Try.ntmps15
  go_wp2
  go_loopw [5] (fun i wr => ∃ k n : Nat, k ≤ s.size ∧ i = .int .i64 k ∧ wr = w.drewN n ∧ ∀ (j : Nat) (hj : j < k) (hj1 : j < s.size) (hj' : j < l.size), fitB s[j] l[j] = true) (fun i _ => s.size - (intOf i).toNat)
  case atStart => exact ⟨0, 0, Nat.zero_le _, rfl, rfl, fun j hj => absurd hj (Nat.not_lt_zero _)⟩
  case round =>
    obtain ⟨k, n, hk, rfl, rfl, hall⟩ := hrel
    have HA : Hid (∀ (j : Nat) (hj : j < k) (hj1 : j < s.size) (hj' : j < l.size), fitB s[j] l[j] = true) := hall
    clear hall
    by_cases hlt : k < s.size
    · have hlt' : k < l.size := by omega
      have hend : fitB s[k] l[k] = true → ∀ m : Nat, ∃ k_1 n_1 : Nat, k_1 ≤ s.size ∧ Value.int IntKind.i64 ((k : Int) + 1) = Value.int IntKind.i64 k_1 ∧ w.drewN m = w.drewN n_1 ∧ ∀ (j : Nat), j < k_1 → ∀ (hj1 : j < s.size) (hj' : j < l.size), fitB s[j] l[j] = true := by
        intro hq m
        refine ⟨k + 1, m, by omega, by go_num, rfl, fun j hj hj1 hj2 => ?_⟩
        by_cases e : j = k
        · subst e; exact hq
        · exact HA.out j (by omega) hj1 hj2
      have HE : Hid (fitB s[k] l[k] = true → ∀ m : Nat, ∃ k_1 n_1 : Nat, k_1 ≤ s.size ∧ Value.int IntKind.i64 ((k : Int) + 1) = Value.int IntKind.i64 k_1 ∧ w.drewN m = w.drewN n_1 ∧ ∀ (j : Nat), j < k_1 → ∀ (hj1 : j < s.size) (hj' : j < l.size), fitB s[j] l[j] = true) := hend
      clear hend
      by_cases h48 : (l[k].toNat : Int) = 48
      · have h48' : ((l[k].toNat : Int) == 48) = true := by simpa using h48
        by_cases h0 : (s[k].toNat : Int) < 48
        · have HN : Hid (fitB s[k] l[k] = false) := by
            show fitB s[k] l[k] = false
            unfold fitB; rw [if_pos (by omega)]; simp; omega
          clear h48
          go_wp2
          go_ret
          exact ⟨ret_bool (fitsL_no s l hsl k hlt hlt' HN.out).symm, n, rfl⟩
        · by_cases h9 : (s[k].toNat : Int) ≤ 57
          · have HN : Hid (fitB s[k] l[k] = true) := by
              show fitB s[k] l[k] = true
              unfold fitB; rw [if_pos (by omega)]; simp; omega
            clear h48
            go_wp2
            go_round
            case rel => exact HE.out HN.out _
            case measure => simp [intOf]; omega
          · have HN : Hid (fitB s[k] l[k] = false) := by
              show fitB s[k] l[k] = false
              unfold fitB; rw [if_pos (by omega)]; simp; omega
            clear h48
            go_wp2
            go_ret
            exact ⟨ret_bool (fitsL_no s l hsl k hlt hlt' HN.out).symm, n, rfl⟩
      · have h48' : ((l[k].toNat : Int) == 48) = false := by simpa using h48
        by_cases he : (s[k].toNat : Int) = (l[k].toNat : Int)
        · have HN : Hid (fitB s[k] l[k] = true) := by
            show fitB s[k] l[k] = true
            unfold fitB; rw [if_neg (by omega)]; simp; omega
          have he' : ((s[k].toNat : Int) != (l[k].toNat : Int)) = false := by simpa using he
          clear h48 he
          go_wp2
          go_quiet (fail)
          go_wp2
          go_round
          case rel =>
            exact HE.out HN.out _
          case measure => simp [intOf]; omega
        · have HN : Hid (fitB s[k] l[k] = false) := by
            show fitB s[k] l[k] = false
            unfold fitB; rw [if_neg (by omega)]; simp; omega
          have he' : ((s[k].toNat : Int) != (l[k].toNat : Int)) = true := by simpa using he
          clear h48 he
          go_wp2
          go_quiet (fail)
          go_wp2
          go_ret
          exact ⟨ret_bool (fitsL_no s l hsl k hlt hlt' HN.out).symm, n + nq, by simp only [World.drewN_drewN]⟩
    · go_wp2
      go_ret
      exact ⟨ret_bool (fitsL_yes s l hsl fun j hj hj' => HA.out j (by omega) hj hj').symm, n, rfl⟩

theorem zzfits_any (s l : ByteArray) (w : World) (hsl : s.size ≤ l.size) (hl : l.size ≤ maxLen) :
    Calls Try.prog 10 #[.string s, .string l] w fun e w' => e = .returned (.bool (fitsL s.data.toList l.data.toList)) ∧ ∃ n, w' = w.drewN n := by
  go_enter Try.func10, Try.ntmps10
  go_wp2_with (go_at_call 15; refine (fits_any _ _ _ hsl hl).mono ?_; rintro e w' ⟨rfl, n, rfl⟩)
  go_ret
  exact ⟨rfl, n, rfl⟩

theorem ext0 (s : ByteArray) (k : Nat) : (s.extract 0 k).data.toList = s.data.toList.take k := by simp [ByteArray.data_extract]
theorem ext1 (s : ByteArray) (k : Nat) : (s.extract k s.size).data.toList = s.data.toList.drop k := by
  rw [ByteArray.data_extract, Array.toList_extract, List.extract_eq_take_drop]
  exact List.take_of_length_le (by simp)
theorem fitsL_cutB (s l : ByteArray) (h : s.size = l.size) (k : Nat) :
    fitsL s.data.toList l.data.toList = (fitsL (s.extract 0 k).data.toList (l.extract 0 k).data.toList && fitsL (s.extract k s.size).data.toList (l.extract k l.size).data.toList) := by
  rw [ext0, ext0, ext1, ext1]; exact fitsL_cut k _ _ (by simpa using h)

theorem zzfits_eq (s l : ByteArray) (b : Bool) (w : World) (hsl : s.size ≤ l.size) (hl : l.size ≤ maxLen) (hb : Hid (fitsL s.data.toList l.data.toList = b)) :
    Calls Try.prog 10 #[.string s, .string l] w fun e w' => e = .returned (.bool b) ∧ ∃ n, w' = w.drewN n := by
  have := zzfits_any s l w hsl hl
  rw [hb.out] at this; exact this

theorem grown_drewN {W w' : World} (n : Nat) (h : Grown W w') : Grown W (w'.drewN n) := h

/-- zzBytes of FnFitsCutAndSelf: it answers a bool; 'true' only where the two lengths are small. -/
theorem zzbytes9_any (s l : ByteArray) (k : Int) (w : World) (hs : s.size ≤ maxLen) (hl : l.size ≤ maxLen) :
    Calls Try.prog 9 #[.string s, .string l, .int .i64 k] w fun e w' => e = .returned (.bool (decide (s.size + l.size ≤ 1048576))) ∧ w' = w := by
  unfold maxLen at hs hl
  by_cases h1 : s.size ≤ 1048576
  · by_cases h2 : l.size ≤ 1048576
    · by_cases h3 : s.size + l.size ≤ 1048576
      all_goals
        go_enter Try.func9, Try.ntmps9
        go_wp2
        go_ret
        exact ⟨ret_bool (by simp; omega), rfl⟩
    · go_enter Try.func9, Try.ntmps9
      go_wp2
      go_ret
      exact ⟨ret_bool (by simp; omega), rfl⟩
  · go_enter Try.func9, Try.ntmps9
    go_wp2
    go_ret
    exact ⟨ret_bool (by simp; omega), rfl⟩

theorem zzbytes11_any (l : ByteArray) (k b : Int) (w : World) (hl : l.size ≤ maxLen) :
    Calls Try.prog 11 #[.string l, .int .i64 k, .int .u8 b] w fun e w' => e = .returned (.bool (decide (l.size ≤ 1048576))) ∧ w' = w := by
  unfold maxLen at hl
  by_cases h1 : l.size ≤ 1048576
  all_goals
    go_enter Try.func11, Try.ntmps11
    go_wp2
    go_ret
    exact ⟨ret_bool (by simp; omega), rfl⟩

theorem zzbytes12_any (l : ByteArray) (k b : Int) (w : World) (hl : l.size ≤ maxLen) :
    Calls Try.prog 12 #[.string l, .int .i64 k, .int .u8 b] w fun e w' => e = .returned (.bool (decide (l.size ≤ 1048576))) ∧ w' = w := by
  unfold maxLen at hl
  by_cases h1 : l.size ≤ 1048576
  all_goals
    go_enter Try.func12, Try.ntmps12
    go_wp2
    go_ret
    exact ⟨ret_bool (by simp; omega), rfl⟩
end Go.Proofs.Qxb6617310a
