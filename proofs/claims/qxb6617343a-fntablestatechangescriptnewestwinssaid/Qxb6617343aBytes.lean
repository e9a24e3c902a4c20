import Derived.Test.Qxb6617343aWalkC
namespace Go.Proofs.Qxb6617343a
open Go.RowKit

def Small (T : List SL) : Prop := T.length ≤ 1048576 ∧ ∀ (j : Nat) (h : j < T.length), T[j].n ≤ 1048576
def Z21 (T1 T2 T3 T4 : List SL) (n2 n6 n7 : Nat) (w : World) (e : Ending) (w' : World) : Prop :=
  ∃ b : Bool, e = .returned (.bool b) ∧ w' = w ∧ (b = true → (Small T1 ∧ Small T2 ∧ Small T3 ∧ Small T4) ∧ n2 ≤ 1048576 ∧ n6 ≤ 1048576 ∧ n7 ≤ 1048576)
theorem Z21.no (T1 T2 T3 T4 : List SL) (n2 n6 n7 : Nat) (w : World) : Z21 T1 T2 T3 T4 n2 n6 n7 w (.returned (.bool false)) w := ⟨false, rfl, rfl, fun h => by cases h⟩
theorem Z21.yes (T1 T2 T3 T4 : List SL) (n2 n6 n7 : Nat) (w : World) (h : (Small T1 ∧ Small T2 ∧ Small T3 ∧ Small T4) ∧ n2 ≤ 1048576 ∧ n6 ≤ 1048576 ∧ n7 ≤ 1048576) : Z21 T1 T2 T3 T4 n2 n6 n7 w (.returned (.bool true)) w := ⟨true, rfl, rfl, fun _ => h⟩

set_option maxHeartbeats 8000000 in
set_option maxRecDepth 100000 in
theorem zzbytes21 (a0 a1 a2 a4 a5 a6 a7 : Option Addr) (c0 c1 c2 c4 c5 c6 c7 n2 n6 n7 : Nat) (d : Bool) (T1 T2 T3 T4 : List SL) (w : World)
    (h1 : OAt w a0 T1) (h2 : OAt w a1 T2) (h3 : OAt w a4 T3) (h4 : OAt w a5 T4)
    (l1 : ∀ (i : Nat) (h : i < T1.length), T1[i].n ≤ maxLen) (l2 : ∀ (i : Nat) (h : i < T2.length), T2[i].n ≤ maxLen) (l3 : ∀ (i : Nat) (h : i < T3.length), T3[i].n ≤ maxLen) (l4 : ∀ (i : Nat) (h : i < T4.length), T4[i].n ≤ maxLen)
    (hn2 : n2 ≤ maxLen) (hn6 : n6 ≤ maxLen) (hn7 : n7 ≤ maxLen) :
    Calls Try.prog 21 #[.slice a0 T1.length c0, .slice a1 T2.length c1, .slice a2 n2 c2, .bool d, .slice a4 T3.length c4, .slice a5 T4.length c5, .slice a6 n6 c6, .slice a7 n7 c7] w fun e w' => Z21 T1 T2 T3 T4 n2 n6 n7 w e w' := by
  have m1 := h1.1
  have m2 := h2.1
  have m3 := h3.1
  have m4 := h4.1
  unfold maxLen at m1 m2 m3 m4 l1 l2 l3 l4 hn2 hn6 hn7
  have H1 : Hid (OAt w a0 T1) := h1
  have H2 : Hid (OAt w a1 T2) := h2
  have H3 : Hid (OAt w a4 T3) := h3
  have H4 : Hid (OAt w a5 T4) := h4
  have L1 : Hid (∀ (i : Nat) (h : i < T1.length), T1[i].n ≤ 2 ^ 63 - 1) := l1
  have L2 : Hid (∀ (i : Nat) (h : i < T2.length), T2[i].n ≤ 2 ^ 63 - 1) := l2
  have L3 : Hid (∀ (i : Nat) (h : i < T3.length), T3[i].n ≤ 2 ^ 63 - 1) := l3
  have L4 : Hid (∀ (i : Nat) (h : i < T4.length), T4[i].n ≤ 2 ^ 63 - 1) := l4
  clear h1 h2 h3 h4 l1 l2 l3 l4
  by_cases g1 : T1.length ≤ 1048576
  · by_cases s1 : 0 + T1.length ≤ 1048576
    · go_enter Try.func21, Try.ntmps21
      go_wp2
      go_loop [17, 18] (fun z i => ∃ k m : Nat, k ≤ T1.length ∧ i = .int .i64 k ∧ z = .int .i64 m ∧ m ≤ 1048576 ∧ ∀ (j : Nat) (h : j < T1.length), j < k → T1[j].n ≤ 1048576) (fun _ i => T1.length - (intOf i).toNat)
      case atStart => exact ⟨0, 0 + T1.length, Nat.zero_le _, rfl, by go_num, s1, fun j _ h => absurd h (Nat.not_lt_zero _)⟩
      case round =>
        obtain ⟨k1, m1', hk1, rfl, rfl, hm1, hall⟩ := hrel
        have HN1 : Hid (∀ (j : Nat) (h : j < T1.length), j < k1 → T1[j].n ≤ 1048576) := hall
        clear hall
        by_cases hlt1 : k1 < T1.length
        · obtain ⟨b, off, rfl, hc⟩ := H1.out.2 (by omega)
          have hck := hc k1 hlt1
          have hnk := L1.out k1 hlt1
          clear hc
          by_cases hsm : T1[k1].n ≤ 1048576
          · by_cases hsum : m1' + T1[k1].n ≤ 1048576
            · go_wp2
              go_round
              case rel => exact ⟨k1 + 1, m1' + T1[k1].n, by omega, by go_num, by go_num, hsum, fun j h hj => by
                by_cases e : j = k1
                · subst e; exact hsm
                · exact HN1.out j h (by omega)⟩
              case measure => simp [intOf]; omega
            · go_wp2
              go_ret
              exact Z21.no T1 T2 T3 T4 n2 n6 n7 w
          · go_wp2
            go_ret
            exact Z21.no T1 T2 T3 T4 n2 n6 n7 w
        · have HS1 : Hid (Small T1) := ⟨g1, fun j h => HN1.out j h (by omega)⟩
          clear HN1
          by_cases g2 : T2.length ≤ 1048576
          · by_cases s2 : m1' + T2.length ≤ 1048576
            · go_wp2
              go_loop [17, 19] (fun z i => ∃ k m : Nat, k ≤ T2.length ∧ i = .int .i64 k ∧ z = .int .i64 m ∧ m ≤ 1048576 ∧ ∀ (j : Nat) (h : j < T2.length), j < k → T2[j].n ≤ 1048576) (fun _ i => T2.length - (intOf i).toNat)
              case atStart => exact ⟨0, m1' + T2.length, Nat.zero_le _, rfl, by go_num, s2, fun j _ h => absurd h (Nat.not_lt_zero _)⟩
              case round =>
                obtain ⟨k2, m2', hk2, rfl, rfl, hm2, hall⟩ := hrel
                have HN2 : Hid (∀ (j : Nat) (h : j < T2.length), j < k2 → T2[j].n ≤ 1048576) := hall
                clear hall
                by_cases hlt2 : k2 < T2.length
                · obtain ⟨b, off, rfl, hc⟩ := H2.out.2 (by omega)
                  have hck := hc k2 hlt2
                  have hnk := L2.out k2 hlt2
                  clear hc
                  by_cases hsm : T2[k2].n ≤ 1048576
                  · by_cases hsum : m2' + T2[k2].n ≤ 1048576
                    · go_wp2
                      go_round
                      case rel => exact ⟨k2 + 1, m2' + T2[k2].n, by omega, by go_num, by go_num, hsum, fun j h hj => by
                        by_cases e : j = k2
                        · subst e; exact hsm
                        · exact HN2.out j h (by omega)⟩
                      case measure => simp [intOf]; omega
                    · go_wp2
                      go_ret
                      exact Z21.no T1 T2 T3 T4 n2 n6 n7 w
                  · go_wp2
                    go_ret
                    exact Z21.no T1 T2 T3 T4 n2 n6 n7 w
                · have HS2 : Hid (Small T2) := ⟨g2, fun j h => HN2.out j h (by omega)⟩
                  clear HN2
                  by_cases g_n2 : n2 ≤ 1048576
                  · by_cases s_n2 : m2' + n2 ≤ 1048576
                    · skip
                      by_cases g3 : T3.length ≤ 1048576
                      · by_cases s3 : (m2' + n2) + T3.length ≤ 1048576
                        · go_wp2
                          go_loop [17, 20] (fun z i => ∃ k m : Nat, k ≤ T3.length ∧ i = .int .i64 k ∧ z = .int .i64 m ∧ m ≤ 1048576 ∧ ∀ (j : Nat) (h : j < T3.length), j < k → T3[j].n ≤ 1048576) (fun _ i => T3.length - (intOf i).toNat)
                          case atStart => exact ⟨0, (m2' + n2) + T3.length, Nat.zero_le _, rfl, by go_num, s3, fun j _ h => absurd h (Nat.not_lt_zero _)⟩
                          case round =>
                            obtain ⟨k3, m3', hk3, rfl, rfl, hm3, hall⟩ := hrel
                            have HN3 : Hid (∀ (j : Nat) (h : j < T3.length), j < k3 → T3[j].n ≤ 1048576) := hall
                            clear hall
                            by_cases hlt3 : k3 < T3.length
                            · obtain ⟨b, off, rfl, hc⟩ := H3.out.2 (by omega)
                              have hck := hc k3 hlt3
                              have hnk := L3.out k3 hlt3
                              clear hc
                              by_cases hsm : T3[k3].n ≤ 1048576
                              · by_cases hsum : m3' + T3[k3].n ≤ 1048576
                                · go_wp2
                                  go_round
                                  case rel => exact ⟨k3 + 1, m3' + T3[k3].n, by omega, by go_num, by go_num, hsum, fun j h hj => by
                                    by_cases e : j = k3
                                    · subst e; exact hsm
                                    · exact HN3.out j h (by omega)⟩
                                  case measure => simp [intOf]; omega
                                · go_wp2
                                  go_ret
                                  exact Z21.no T1 T2 T3 T4 n2 n6 n7 w
                              · go_wp2
                                go_ret
                                exact Z21.no T1 T2 T3 T4 n2 n6 n7 w
                            · have HS3 : Hid (Small T3) := ⟨g3, fun j h => HN3.out j h (by omega)⟩
                              clear HN3
                              by_cases g4 : T4.length ≤ 1048576
                              · by_cases s4 : m3' + T4.length ≤ 1048576
                                · go_wp2
                                  go_loop [17, 21] (fun z i => ∃ k m : Nat, k ≤ T4.length ∧ i = .int .i64 k ∧ z = .int .i64 m ∧ m ≤ 1048576 ∧ ∀ (j : Nat) (h : j < T4.length), j < k → T4[j].n ≤ 1048576) (fun _ i => T4.length - (intOf i).toNat)
                                  case atStart => exact ⟨0, m3' + T4.length, Nat.zero_le _, rfl, by go_num, s4, fun j _ h => absurd h (Nat.not_lt_zero _)⟩
                                  case round =>
                                    obtain ⟨k4, m4', hk4, rfl, rfl, hm4, hall⟩ := hrel
                                    have HN4 : Hid (∀ (j : Nat) (h : j < T4.length), j < k4 → T4[j].n ≤ 1048576) := hall
                                    clear hall
                                    by_cases hlt4 : k4 < T4.length
                                    · obtain ⟨b, off, rfl, hc⟩ := H4.out.2 (by omega)
                                      have hck := hc k4 hlt4
                                      have hnk := L4.out k4 hlt4
                                      clear hc
                                      by_cases hsm : T4[k4].n ≤ 1048576
                                      · by_cases hsum : m4' + T4[k4].n ≤ 1048576
                                        · go_wp2
                                          go_round
                                          case rel => exact ⟨k4 + 1, m4' + T4[k4].n, by omega, by go_num, by go_num, hsum, fun j h hj => by
                                            by_cases e : j = k4
                                            · subst e; exact hsm
                                            · exact HN4.out j h (by omega)⟩
                                          case measure => simp [intOf]; omega
                                        · go_wp2
                                          go_ret
                                          exact Z21.no T1 T2 T3 T4 n2 n6 n7 w
                                      · go_wp2
                                        go_ret
                                        exact Z21.no T1 T2 T3 T4 n2 n6 n7 w
                                    · have HS4 : Hid (Small T4) := ⟨g4, fun j h => HN4.out j h (by omega)⟩
                                      clear HN4
                                      by_cases g_n6 : n6 ≤ 1048576
                                      · by_cases s_n6 : m4' + n6 ≤ 1048576
                                        · skip
                                          by_cases g_n7 : n7 ≤ 1048576
                                          · by_cases s_n7 : (m4' + n6) + n7 ≤ 1048576
                                            · go_wp2
                                              go_ret
                                              exact Z21.yes T1 T2 T3 T4 n2 n6 n7 w ⟨⟨HS1.out, HS2.out, HS3.out, HS4.out⟩, g_n2, g_n6, g_n7⟩
                                            · go_wp2
                                              go_ret
                                              exact Z21.no T1 T2 T3 T4 n2 n6 n7 w
                                          · go_wp2
                                            go_ret
                                            exact Z21.no T1 T2 T3 T4 n2 n6 n7 w
                                        · go_wp2
                                          go_ret
                                          exact Z21.no T1 T2 T3 T4 n2 n6 n7 w
                                      · go_wp2
                                        go_ret
                                        exact Z21.no T1 T2 T3 T4 n2 n6 n7 w
                                · go_wp2
                                  go_ret
                                  exact Z21.no T1 T2 T3 T4 n2 n6 n7 w
                              · go_wp2
                                go_ret
                                exact Z21.no T1 T2 T3 T4 n2 n6 n7 w
                        · go_wp2
                          go_ret
                          exact Z21.no T1 T2 T3 T4 n2 n6 n7 w
                      · go_wp2
                        go_ret
                        exact Z21.no T1 T2 T3 T4 n2 n6 n7 w
                    · go_wp2
                      go_ret
                      exact Z21.no T1 T2 T3 T4 n2 n6 n7 w
                  · go_wp2
                    go_ret
                    exact Z21.no T1 T2 T3 T4 n2 n6 n7 w
            · go_wp2
              go_ret
              exact Z21.no T1 T2 T3 T4 n2 n6 n7 w
          · go_wp2
            go_ret
            exact Z21.no T1 T2 T3 T4 n2 n6 n7 w
    · exfalso; omega
  · go_enter Try.func21, Try.ntmps21
    go_wp2
    go_ret
    exact Z21.no T1 T2 T3 T4 n2 n6 n7 w
end Go.Proofs.Qxb6617343a
