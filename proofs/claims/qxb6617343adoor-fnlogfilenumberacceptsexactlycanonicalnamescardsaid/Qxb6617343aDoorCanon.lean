import Derived.Test.Qxb6617343aDoorNum
namespace Go.Proofs.Qxb6617343aDoor
open Go.Shelf Go.RowKit Go.Sort Go.Lib

/-- no number's log file has this name -/
def NoLog (l : List UInt8) : Prop := ∀ u, u ≤ M64 → logL u ≠ l

theorem logL_get (u i : Nat) (hi : i < 3) : (logL u)[i]? = [(108 : UInt8), 111, 103][i]? := by
  unfold logL; split
  · rfl
  · rw [List.getElem?_append_left (by simp; omega)]
    match i, hi with
    | 0, _ => rfl
    | 1, _ => rfl
    | 2, _ => rfl
theorem no_at (l : List UInt8) (i : Nat) (hi : i < 3) (c : UInt8) (h : l[i]? = some c) (hc : [(108 : UInt8), 111, 103][i]? ≠ some c) : NoLog l := fun u _ e => by
  have := logL_get u i hi
  rw [e, h] at this
  exact hc this.symm
theorem no0 (l : List UInt8) (c : UInt8) (h : l[0]? = some c) (hc : (c.toNat : Int) ≠ 108) : NoLog l :=
  no_at l 0 (by omega) c h (fun e => hc (by have : (108 : UInt8) = c := by simpa using e
                                            rw [← this]; rfl))
theorem no1 (l : List UInt8) (c : UInt8) (h : l[1]? = some c) (hc : (c.toNat : Int) ≠ 111) : NoLog l :=
  no_at l 1 (by omega) c h (fun e => hc (by have : (111 : UInt8) = c := by simpa using e
                                            rw [← this]; rfl))
theorem no2 (l : List UInt8) (c : UInt8) (h : l[2]? = some c) (hc : (c.toNat : Int) ≠ 103) : NoLog l :=
  no_at l 2 (by omega) c h (fun e => hc (by have : (103 : UInt8) = c := by simpa using e
                                            rw [← this]; rfl))
theorem dec_pos (u : Nat) : 1 ≤ (Lib.decDigits u).length := by rw [Lib.decDigits_length]; exact Lib.nDigits_pos u
theorem no_len (l : List UInt8) (h : l.length < 3 ∨ l.length = 4) : NoLog l := fun u _ e => by
  have := congrArg List.length e
  unfold logL at this; split at this
  · simp at this; omega
  · have := dec_pos u; simp at *; omega
theorem no3 (l : List UInt8) (c : UInt8) (h : l[3]? = some c) (hc : (c.toNat : Int) ≠ 46) : NoLog l := fun u _ e => by
  rcases Nat.eq_zero_or_pos u with rfl | h0
  · rw [← e] at h; simp [logL] at h
  · rw [← e, logL_pos u h0] at h
    have : (46 : UInt8) = c := by simpa using h
    rw [← this] at hc; exact hc rfl
theorem no4 (l : List UInt8) (c : UInt8) (h : l[4]? = some c) (hc : (c.toNat : Int) = 48) : NoLog l := fun u _ e => by
  rcases Nat.eq_zero_or_pos u with rfl | h0
  · rw [← e] at h; simp [logL] at h
  · obtain ⟨c', r, e', hc'⟩ := dec_head u h0
    rw [← e, logL_pos u h0, e'] at h
    have : c' = c := by simpa using h
    rw [this] at hc'; omega
theorem no_pm (l : List UInt8) (hlen : 3 < l.length) (h : pm 0 (l.drop 4) = none) : NoLog l := fun u hu e => by
  rcases Nat.eq_zero_or_pos u with rfl | h0
  · have := congrArg List.length e; simp [logL] at this; omega
  · rw [← e, logL_pos u h0] at h
    have e2 : List.drop 4 ([108, 111, 103, 46] ++ Lib.decDigits u) = Lib.decDigits u := rfl
    rw [e2, pm_dec u hu] at h; cases h
theorem list4 (l : List UInt8) (a b c d : UInt8) (h0 : l[0]? = some a) (h1 : l[1]? = some b) (h2 : l[2]? = some c) (h3 : l[3]? = some d) : l = [a, b, c, d] ++ l.drop 4 := by
  match l, h0, h1, h2, h3 with
  | x0 :: x1 :: x2 :: x3 :: r, h0, h1, h2, h3 => simp at h0 h1 h2 h3; subst h0; subst h1; subst h2; subst h3; rfl
theorem u8_eq (c : UInt8) (n : Nat) (hn : n < 256) (h : (c.toNat : Int) = n) : c = UInt8.ofNat n := by
  apply UInt8.toNat_inj.1
  simp; omega
theorem yes_pm (l : List UInt8) (hl : l = [108, 111, 103, 46] ++ l.drop 4) (h4 : ∃ c, l[4]? = some c ∧ (c.toNat : Int) ≠ 48) (v : Nat) (h : pm 0 (l.drop 4) = some v) : logL v = l ∧ v ≤ M64 := by
  obtain ⟨c, hc, hne⟩ := h4
  have e4 : (l.drop 4)[0]? = some c := by rw [List.getElem?_drop]; exact hc
  refine ⟨?_, pm_le _ 0 v (by unfold M64; omega) h⟩
  match hd : l.drop 4, e4 with
  | c' :: r, e4 =>
    have : c' = c := by simpa using e4
    subst this
    rw [hd] at h
    have e := pm_canon c' r v (by omega) h
    have hv : 0 < v := by
      rcases Nat.eq_zero_or_pos v with rfl | h'
      · rw [Lib.decDigits_one (by omega)] at e
        have : UInt8.ofNat (48 + 0) = c' := by simpa using congrArg List.head? e
        rw [← this] at hne; exact absurd rfl hne
      · exact h'
    rw [logL_pos v hv, e, ← hd]; exact hl.symm

/-- what the law's own scan answers -/
def Z10 (l : List UInt8) (w : World) (e : Ending) (w' : World) : Prop :=
  ∃ (v : Nat) (b : Bool), e = .returned (.tuple #[.int .u64 (v : Int), .bool b]) ∧ w' = w ∧ ((b = true ∧ v ≤ M64 ∧ logL v = l) ∨ (b = false ∧ v = 0 ∧ NoLog l))
theorem Z10.no {l : List UInt8} (w : World) (h : NoLog l) : Z10 l w (.returned (.tuple #[.int .u64 0, .bool false])) w := ⟨0, false, rfl, rfl, .inr ⟨rfl, rfl, h⟩⟩
theorem Z10.yes {l : List UInt8} (w : World) (v : Nat) (h : logL v = l ∧ v ≤ M64) : Z10 l w (.returned (.tuple #[.int .u64 (v : Int), .bool true])) w := ⟨v, true, rfl, rfl, .inl ⟨rfl, h.2, h.1⟩⟩

theorem at_of (s : ByteArray) (i : Nat) (h : i < s.size) : s.data.toList[i]? = some s[i] := by
  rw [List.getElem?_eq_getElem (by simpa using h)]; rfl

theorem canon_short (s : ByteArray) (w : World) (h : s.size < 5) (h3 : s.size ≠ 3) :
    Calls Tryd.prog 10 #[.string s] w fun e w' => Z10 s.data.toList w e w' := by
  have HN : Hid (NoLog s.data.toList) := by
    have hl : s.data.toList.length = s.size := by simp
    exact no_len _ (by omega)
  have hb : ((s.size : Int) == 3) = false := by simp; omega
  go_enter Tryd.func10, Tryd.ntmps10
  go_wp2
  go_ret2
  exact Z10.no w HN.out

theorem canon_three (s : ByteArray) (w : World) (h3 : s.size = 3) :
    Calls Tryd.prog 10 #[.string s] w fun e w' => Z10 s.data.toList w e w' := by
  have hb : ((s.size : Int) == 3) = true := by simp; omega
  have hge : 3 ≤ s.size := by omega
  have hlt : s.size < 5 := by omega
  have H3 : Hid (s.size = 3) := h3
  clear h3
  by_cases e0 : (s[0].toNat : Int) = 108
  · have b0 : ((s[0].toNat : Int) == 108) = true := by simpa using e0
    by_cases e1 : (s[1].toNat : Int) = 111
    · have b1 : ((s[1].toNat : Int) == 111) = true := by simpa using e1
      by_cases e2 : (s[2].toNat : Int) = 103
      · have b2 : ((s[2].toNat : Int) == 103) = true := by simpa using e2
        have HY : Hid (logL 0 = s.data.toList ∧ 0 ≤ M64) := by
          refine ⟨?_, Nat.zero_le _⟩
          have hl : s.data.toList.length = 3 := by simp; exact H3.out
          have a0 := at_of s 0 (by omega); have a1 := at_of s 1 (by omega); have a2 := at_of s 2 (by omega)
          rw [u8_eq _ 108 (by omega) e0] at a0
          rw [u8_eq _ 111 (by omega) e1] at a1
          rw [u8_eq _ 103 (by omega) e2] at a2
          match s.data.toList, hl, a0, a1, a2 with
          | [x, y, z], _, a0, a1, a2 => simp at a0 a1 a2; subst a0; subst a1; subst a2; rfl
        clear e0 e1 e2
        go_enter Tryd.func10, Tryd.ntmps10
        go_wp2
        go_ret2
        exact Z10.yes w 0 HY.out
      · have b2 : ((s[2].toNat : Int) == 103) = false := by simpa using e2
        have HN : Hid (NoLog s.data.toList) := no2 _ _ (at_of s 2 (by omega)) e2
        clear e0 e1 e2
        go_enter Tryd.func10, Tryd.ntmps10
        go_wp2
        go_ret2
        exact Z10.no w HN.out
    · have b1 : ((s[1].toNat : Int) == 111) = false := by simpa using e1
      have HN : Hid (NoLog s.data.toList) := no1 _ _ (at_of s 1 (by omega)) e1
      clear e0 e1
      go_enter Tryd.func10, Tryd.ntmps10
      go_wp2
      go_ret2
      exact Z10.no w HN.out
  · have b0 : ((s[0].toNat : Int) == 108) = false := by simpa using e0
    have HN : Hid (NoLog s.data.toList) := no0 _ _ (at_of s 0 (by omega)) e0
    clear e0
    go_enter Tryd.func10, Tryd.ntmps10
    go_wp2
    go_ret2
    exact Z10.no w HN.out

theorem pm_digit (a : Nat) (c : UInt8) (r : List UInt8) (h1 : 48 ≤ (c.toNat : Int)) (h2 : (c.toNat : Int) ≤ 57) (h : a * 10 + (c.toNat - 48) ≤ M64) : pm a (c :: r) = pm (a * 10 + (c.toNat - 48)) r := by
  rw [pm_cons, if_pos (by omega), if_pos h]
theorem pm_over (a : Nat) (c : UInt8) (r : List UInt8) (h : ¬ a * 10 + (c.toNat - 48) ≤ M64) : pm a (c :: r) = none := by
  rw [pm_cons, if_neg h]; split <;> rfl
theorem pm_fault (a : Nat) (c : UInt8) (r : List UInt8) (h : (c.toNat : Int) < 48 ∨ 57 < (c.toNat : Int)) : pm a (c :: r) = none := by
  rw [pm_cons, if_neg (by omega)]
theorem drop_at (s : ByteArray) (k : Nat) (h : k < s.size) : s.data.toList.drop k = s[k] :: s.data.toList.drop (k + 1) :=
  List.drop_eq_getElem_cons (by simpa using h)

set_option maxHeartbeats 2000000 in
theorem canon_long (s : ByteArray) (w : World) (h5 : 5 ≤ s.size) (hs : s.size ≤ 65536) :
    Calls Tryd.prog 10 #[.string s] w fun e w' => Z10 s.data.toList w e w' := by
  have hb : ((s.size : Int) == 3) = false := by simp; omega
  by_cases e0 : (s[0].toNat : Int) = 108
  · have b0 : ((s[0].toNat : Int) != 108) = false := by simpa using e0
    by_cases e1 : (s[1].toNat : Int) = 111
    · have b1 : ((s[1].toNat : Int) != 111) = false := by simpa using e1
      by_cases e2 : (s[2].toNat : Int) = 103
      · have b2 : ((s[2].toNat : Int) != 103) = false := by simpa using e2
        by_cases e3 : (s[3].toNat : Int) = 46
        · have b3 : ((s[3].toNat : Int) != 46) = false := by simpa using e3
          by_cases e4 : (s[4].toNat : Int) = 48
          · have b4 : ((s[4].toNat : Int) == 48) = true := by simpa using e4
            have HN : Hid (NoLog s.data.toList) := no4 _ _ (at_of s 4 (by omega)) e4
            clear e0 e1 e2 e3 e4
            go_enter Tryd.func10, Tryd.ntmps10
            go_wp2
            go_ret2
            exact Z10.no w HN.out
          · have b4 : ((s[4].toNat : Int) == 48) = false := by simpa using e4
            have HY : Hid (∀ v, pm 0 (s.data.toList.drop 4) = some v → logL v = s.data.toList ∧ v ≤ M64) := by
              have a0 := at_of s 0 (by omega); have a1 := at_of s 1 (by omega); have a2 := at_of s 2 (by omega); have a3 := at_of s 3 (by omega)
              rw [u8_eq _ 108 (by omega) e0] at a0
              rw [u8_eq _ 111 (by omega) e1] at a1
              rw [u8_eq _ 103 (by omega) e2] at a2
              rw [u8_eq _ 46 (by omega) e3] at a3
              exact fun v hv => yes_pm _ (list4 _ _ _ _ _ a0 a1 a2 a3) ⟨_, at_of s 4 (by omega), e4⟩ v hv
            have HN : Hid (pm 0 (s.data.toList.drop 4) = none → NoLog s.data.toList) := fun h => no_pm _ (by simp; omega) h
            clear e0 e1 e2 e3 e4
            go_enter Tryd.func10, Tryd.ntmps10
            go_wp2
            go_loop [4, 5, 6, 7] (fun v i _ _ => ∃ a k : Nat, 4 ≤ k ∧ k ≤ s.size ∧ i = .int .i64 k ∧ v = .int .u64 a ∧ a ≤ M64 ∧ pm 0 (s.data.toList.drop 4) = pm a (s.data.toList.drop k)) (fun _ i _ _ => s.size - (RowKit.intOf i).toNat)
            case atStart => exact ⟨0, 4, Nat.le_refl _, by omega, rfl, rfl, Nat.zero_le _, rfl⟩
            case round =>
              obtain ⟨a, k, hk4, hk, rfl, rfl, ha, hpm⟩ := hrel
              have HP : Hid (pm 0 (s.data.toList.drop 4) = pm a (s.data.toList.drop k)) := hpm
              clear hpm
              have ha' : (a : Int) ≤ 18446744073709551615 := by unfold M64 at ha; omega
              by_cases hlt : k < s.size
              · have HD : Hid (s.data.toList.drop k = s[k] :: s.data.toList.drop (k + 1)) := drop_at s k hlt
                by_cases h1 : (s[k].toNat : Int) < 48
                · have HF : Hid (NoLog s.data.toList) := HN.out (by rw [HP.out, HD.out, pm_fault _ _ _ (Or.inl h1)])
                  go_wp2
                  go_ret2
                  exact Z10.no w HF.out
                · by_cases h2 : (s[k].toNat : Int) ≤ 57
                  · by_cases hov : a * 10 + (s[k].toNat - 48) ≤ M64
                    · have HS : Hid (pm 0 (s.data.toList.drop 4) = pm (a * 10 + (s[k].toNat - 48)) (s.data.toList.drop (k + 1))) := by
                        show _ = _
                        rw [HP.out, HD.out, pm_digit _ _ _ (by omega) h2 hov]
                      have HO : Hid (a * 10 + (s[k].toNat - 48) ≤ M64) := hov
                      have hov' : (a : Int) * 10 + ((s[k].toNat : Int) - 48) ≤ 18446744073709551615 := by unfold M64 at hov; omega
                      clear hov
                      go_wp2
                      go_round
                      case rel => exact ⟨a * 10 + (s[k].toNat - 48), k + 1, by omega, by omega, by go_num, by go_num, HO.out, HS.out⟩
                      case measure => simp [RowKit.intOf]; omega
                    · have HF : Hid (NoLog s.data.toList) := HN.out (by rw [HP.out, HD.out, pm_over _ _ _ hov])
                      have hov' : ¬ (a : Int) * 10 + ((s[k].toNat : Int) - 48) ≤ 18446744073709551615 := by unfold M64 at hov; omega
                      clear hov
                      go_wp2
                      go_ret2
                      exact Z10.no w HF.out
                  · have HF : Hid (NoLog s.data.toList) := HN.out (by rw [HP.out, HD.out, pm_fault _ _ _ (Or.inr (by omega))])
                    go_wp2
                    go_ret2
                    exact Z10.no w HF.out
              · have HF : Hid (logL a = s.data.toList ∧ a ≤ M64) := HY.out a (by rw [HP.out, List.drop_of_length_le (by simp; omega)]; rfl)
                go_wp2
                go_ret2
                exact Z10.yes w a HF.out
        · have b3 : ((s[3].toNat : Int) != 46) = true := by simpa using e3
          have HN : Hid (NoLog s.data.toList) := no3 _ _ (at_of s 3 (by omega)) e3
          clear e0 e1 e2 e3
          go_enter Tryd.func10, Tryd.ntmps10
          go_wp2
          go_ret2
          exact Z10.no w HN.out
      · have b2 : ((s[2].toNat : Int) != 103) = true := by simpa using e2
        have HN : Hid (NoLog s.data.toList) := no2 _ _ (at_of s 2 (by omega)) e2
        clear e0 e1 e2
        go_enter Tryd.func10, Tryd.ntmps10
        go_wp2
        go_ret2
        exact Z10.no w HN.out
    · have b1 : ((s[1].toNat : Int) != 111) = true := by simpa using e1
      have HN : Hid (NoLog s.data.toList) := no1 _ _ (at_of s 1 (by omega)) e1
      clear e0 e1
      go_enter Tryd.func10, Tryd.ntmps10
      go_wp2
      go_ret2
      exact Z10.no w HN.out
  · have b0 : ((s[0].toNat : Int) != 108) = true := by simpa using e0
    have HN : Hid (NoLog s.data.toList) := no0 _ _ (at_of s 0 (by omega)) e0
    clear e0
    go_enter Tryd.func10, Tryd.ntmps10
    go_wp2
    go_ret2
    exact Z10.no w HN.out

theorem canon10 (s : ByteArray) (w : World) (hs : s.size ≤ 65536) :
    Calls Tryd.prog 10 #[.string s] w fun e w' => Z10 s.data.toList w e w' := by
  by_cases h5 : 5 ≤ s.size
  · exact canon_long s w h5 hs
  · by_cases h3 : s.size = 3
    · exact canon_three s w h3
    · exact canon_short s w (by omega) h3
end Go.Proofs.Qxb6617343aDoor
