import Derived.Test.Qxb6617343aDoorCanon
namespace Go.Proofs.Qxb6617343aDoor
open Go.Shelf Go.RowKit Go.Sort Go.Lib

def VarI (w : World) (n : String) : Prop := ∃ tp p, w.var? Tryd.prog n = some #[.iface tp p]
/-- what strconv.ParseUint leaves -/
def Z15 (w : World) (e : Ending) (w' : World) : Prop :=
  ∃ (v : Nat) (E : Value), e = .returned (.tuple #[.int .u64 (v : Int), E]) ∧ Below w.heap.size w w' ∧ v ≤ M64 ∧ (E = .nilIface ∨ ∃ N, E = .iface 47 (.pointer (some ⟨N, 0, none⟩)))
theorem parse_any (s : ByteArray) (hs : s.size ≤ 65536) (w : World) (hS : VarI w "strconv.ErrSyntax") (hR : VarI w "strconv.ErrRange") :
    Calls Tryd.prog 15 #[.string s, .int .i64 10, .int .i64 64] w fun e w' => Z15 w e w' := by
  obtain ⟨tS, pS, hS⟩ := hS
  obtain ⟨tR, pR, hR⟩ := hR
  cases h : Lib.parseUintB 64 s.data.toList
  · rename_i u
    have hu : u ≤ M64 := pm_le _ 0 u (Nat.zero_le _) ((parse_ok _ _).1 h).2
    refine (Any.strconv_ParseUint_10_at64_ok Tryd.laysPu14 s (by omega) u h w).mono ?_
    rintro e w' ⟨rfl, rfl | rfl⟩
    · exact ⟨u, _, rfl, Below.refl _ _, hu, .inl rfl⟩
    · exact ⟨u, _, rfl, bytes_below _ _, hu, .inl rfl⟩
  · refine (Any.strconv_ParseUint_10_at64_syntax_var Tryd.laysPu14 s (by omega) h tS pS w hS).mono ?_
    rintro e w' ⟨N, rfl, _, _, hb⟩
    exact ⟨0, _, rfl, hb, Nat.zero_le _, .inr ⟨N, rfl⟩⟩
  · refine (Any.strconv_ParseUint_10_at64_range_var Tryd.laysPu14 s (by omega) h tR pR w hR).mono ?_
    rintro e w' ⟨N, rfl, _, _, hb⟩
    exact ⟨M64, _, rfl, hb, Nat.le_refl _, .inr ⟨N, rfl⟩⟩

def cutS (s : ByteArray) : ByteArray := ⟨(Lib.trimPrefix s.data.toList [108, 111, 103, 46]).toArray⟩
def cutB (s : ByteArray) : Bool := Lib.hasPrefix s.data.toList [108, 111, 103, 46]
theorem cut_any (s : ByteArray) (w : World) :
    Calls Tryd.prog 14 #[.string s, .string pre4] w fun e w' => e = .returned (.tuple #[.string (cutS s), .bool (cutB s)]) ∧ w' = w :=
  Any.strings_CutPrefix Tryd.lays103 s pre4 w
theorem cutS_size (s : ByteArray) : (cutS s).size ≤ s.size := by
  have e : (cutS s).size = (Lib.trimPrefix s.data.toList [108, 111, 103, 46]).length := List.size_toArray
  have e2 : s.data.toList.length = s.size := Array.length_toList
  rw [e, ← e2]
  unfold Lib.trimPrefix
  split
  · rw [List.length_drop]; omega
  · exact Nat.le_refl _

set_option maxHeartbeats 1000000 in
theorem log12_no (s : ByteArray) (hs : s.size ≤ 65536) (hn : NoLog s.data.toList) (w : World) (htab : Lib.TabIs Tryd.prog w powName .u64 Lib.pow10Tab) (hS : VarI w "strconv.ErrSyntax") (hR : VarI w "strconv.ErrRange") :
    Calls Tryd.prog 12 #[.string s] w fun e w' => e = .returned (.tuple #[.int .u64 0, .bool false]) ∧ Below w.heap.size w w' := by
  have HT : Hid (TabBelow Tryd.prog w.heap.size w powName .u64 Lib.pow10Tab) := tabBelow_of_tabIs htab
  have HN : Hid (NoLog s.data.toList) := hn
  have HP : Hid (Calls Tryd.prog 15 #[.string (cutS s), .int .i64 10, .int .i64 64] w fun e w' => Z15 w e w') := parse_any (cutS s) (by have := cutS_size s; omega) w hS hR
  have hq : (s.toList == [108, 111, 103]) = false := by
    rw [ByteArray.toList_eq, beq_eq_false_iff_ne]
    exact fun e => hn 0 (Nat.zero_le _) e.symm
  clear htab hn hS hR
  cases hc : cutB s
  · have HC : Hid (cutB s = false) := hc
    clear hc
    go_enter Tryd.func12, Tryd.ntmps12
    go_wp2_with fail
    refine (cut_any s _).mono ?_
    rintro e w1 ⟨rfl, rfl⟩
    rw [HC.out]
    go_wp2_with fail
    refine HP.out.mono ?_
    rintro e w2 ⟨v, E, rfl, hb, hv, _⟩
    clear HP
    go_wp2
    go_ret2
    exact ⟨rfl, hb⟩
  · have HC : Hid (cutB s = true) := hc
    clear hc
    go_enter Tryd.func12, Tryd.ntmps12
    go_wp2_with fail
    refine (cut_any s _).mono ?_
    rintro e w1 ⟨rfl, rfl⟩
    rw [HC.out]
    go_wp2_with fail
    refine HP.out.mono ?_
    rintro e w2 ⟨v, E, rfl, hb, hv, (rfl | ⟨N, rfl⟩)⟩
    · clear HP
      have hv' : v < 18446744073709551616 := by unfold M64 at hv; omega
      have hne : ((logB v).toList == s.toList) = false := by
        rw [ByteArray.toList_eq, ByteArray.toList_eq, logB_data, beq_eq_false_iff_ne]
        exact HN.out v hv
      go_wp2_with fail
      refine (log11 v hv' _ (HT.out _ hb)).mono ?_
      rintro e w3 ⟨rfl, hb3⟩
      go_wp2
      go_ret2
      exact ⟨rfl, hb.trans (hb3.mono hb.size)⟩
    · clear HP
      go_wp2
      go_ret2
      exact ⟨rfl, hb⟩
theorem log7_no (s : ByteArray) (hs : s.size ≤ 65536) (hn : NoLog s.data.toList) (w : World) (htab : Lib.TabIs Tryd.prog w powName .u64 Lib.pow10Tab) (hS : VarI w "strconv.ErrSyntax") (hR : VarI w "strconv.ErrRange") :
    Calls Tryd.prog 7 #[.string s] w fun e w' => e = .returned (.tuple #[.int .u64 0, .bool false]) ∧ Below w.heap.size w w' := by
  have HP : Hid (Calls Tryd.prog 12 #[.string s] w fun e w' => e = .returned (.tuple #[.int .u64 0, .bool false]) ∧ Below w.heap.size w w') := log12_no s hs hn w htab hS hR
  clear hn htab hS hR
  go_enter Tryd.func7, Tryd.ntmps7
  go_wp2_with (go_at_call 12; refine HP.out.mono ?_; rintro e w' ⟨rfl, hb⟩)
  go_ret2
  exact ⟨rfl, hb⟩
theorem dec_inj (u v : Nat) (hu : u ≤ M64) (hv : v ≤ M64) (h : Lib.decDigits u = Lib.decDigits v) : u = v := by
  have h1 := pm_dec u hu
  rw [h, pm_dec v hv] at h1
  exact (Option.some.inj h1).symm
theorem logL_inj (u v : Nat) (hu : u ≤ M64) (hv : v ≤ M64) (h : logL u = logL v) : u = v := by
  rcases Nat.eq_zero_or_pos u with rfl | hu0 <;> rcases Nat.eq_zero_or_pos v with rfl | hv0
  · rfl
  · have := congrArg List.length h
    rw [logL_pos v hv0] at this; simp [logL] at this
  · have := congrArg List.length h
    rw [logL_pos u hu0] at this; simp [logL] at this
  · rw [logL_pos u hu0, logL_pos v hv0] at h
    exact dec_inj u v hu hv (List.append_cancel_left h)
theorem zz9 (s : ByteArray) (hs : s.size ≤ maxLen) (w : World) :
    Calls Tryd.prog 9 #[.string s] w fun e w' => e = .returned (.bool (decide (s.size ≤ 1048576))) ∧ w' = w := by
  unfold maxLen at hs
  by_cases h1 : s.size ≤ 1048576
  · have hd : decide (s.size ≤ 1048576) = true := by simpa using h1
    rw [hd]
    go_enter Tryd.func9, Tryd.ntmps9
    go_wp2
    go_ret
    exact ⟨rfl, rfl⟩
  · have hd : decide (s.size ≤ 1048576) = false := by simpa using h1
    rw [hd]
    go_enter Tryd.func9, Tryd.ntmps9
    go_wp2
    go_ret
    exact ⟨rfl, rfl⟩
end Go.Proofs.Qxb6617343aDoor
