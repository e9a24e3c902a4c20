import Derived.Test.Qxb6617343aDoorLog
import Derived.Test.Qxb6617343aDoorPlain
import Derived.Test.Qxb6617343aDoorShelf2
namespace Go.Proofs.Qxb6617343aDoor
open Go.Shelf Go.RowKit Go.Sort Go.Lib

def pre4 : ByteArray := ⟨#[108, 111, 103, 46]⟩
def decB (u : Nat) : ByteArray := ⟨(Lib.decDigits u).toArray⟩
theorem bytes_below (w : World) (s : ByteArray) : Below w.heap.size w (Lib.bytesWorld w 5 s) := Lib.bytesWorld_below _ _ _

theorem logL_pos (u : Nat) (h : 0 < u) : logL u = [108, 111, 103, 46] ++ Lib.decDigits u := by unfold logL; rw [if_neg (by omega)]
theorem cut_yes (u : Nat) (h : 0 < u) (w : World) :
    Calls Tryd.prog 14 #[.string (logB u), .string pre4] w fun e w' => e = .returned (.tuple #[.string (decB u), .bool true]) ∧ w' = w := by
  have := Any.strings_CutPrefix Tryd.lays103 (logB u) pre4 w
  have e1 : (logB u).data.toList = [108, 111, 103, 46] ++ Lib.decDigits u := by rw [logB_data, logL_pos u h]
  have e2 : pre4.data.toList = [108, 111, 103, 46] := rfl
  have e3 : Lib.hasPrefix ([108, 111, 103, 46] ++ Lib.decDigits u) [108, 111, 103, 46] = true := by simp [Lib.hasPrefix]
  have e4 : Lib.trimPrefix ([108, 111, 103, 46] ++ Lib.decDigits u) [108, 111, 103, 46] = Lib.decDigits u := by
    unfold Lib.trimPrefix; rw [e3, if_pos rfl]; rfl
  rw [e1, e2, e3, e4] at this
  exact this
theorem decB_size (u : Nat) (h : u ≤ M64) : (decB u).size ≤ 20 := by
  have := dec_len u (by unfold M64 at h; omega)
  simpa [decB, ByteArray.size] using this
theorem parse_yes (u : Nat) (h : u ≤ M64) (w : World) :
    Calls Tryd.prog 15 #[.string (decB u), .int .i64 10, .int .i64 64] w fun e w' => e = .returned (.tuple #[.int .u64 u, .nilIface]) ∧ Below w.heap.size w w' := by
  have hp : Lib.parseUintB 64 (decB u).data.toList = .ok u := by
    have e : (decB u).data.toList = Lib.decDigits u := by simp [decB]
    rw [e, parse_ok]
    refine ⟨fun h0 => ?_, pm_dec u h⟩
    have := Lib.decDigits_length u
    have h1 := Lib.nDigits_pos u
    rw [h0] at this; simp at this; omega
  refine (Any.strconv_ParseUint_10_at64_ok Tryd.laysPu14 (decB u) (by have := decB_size u h; omega) u hp w).mono ?_
  rintro e w' ⟨rfl, rfl | rfl⟩
  · exact ⟨rfl, Below.refl _ _⟩
  · exact ⟨rfl, bytes_below _ _⟩

theorem log12_zero (w : World) :
    Calls Tryd.prog 12 #[.string (logB 0)] w fun e w' => e = .returned (.tuple #[.int .u64 0, .bool true]) ∧ w' = w := by
  have hq : ((logB 0).toList == [108, 111, 103]) = true := by rw [ByteArray.toList_eq]; rfl
  go_enter Tryd.func12, Tryd.ntmps12
  go_wp2
  go_ret2
  exact ⟨rfl, rfl⟩

set_option maxHeartbeats 1000000 in
theorem log12_pos (u : Nat) (h0 : 0 < u) (h : u ≤ M64) (w : World) (htab : Lib.TabIs Tryd.prog w powName .u64 Lib.pow10Tab) :
    Calls Tryd.prog 12 #[.string (logB u)] w fun e w' => e = .returned (.tuple #[.int .u64 u, .bool true]) ∧ Below w.heap.size w w' := by
  have HT : Hid (TabBelow Tryd.prog w.heap.size w powName .u64 Lib.pow10Tab) := tabBelow_of_tabIs htab
  clear htab
  have hq : ((logB u).toList == [108, 111, 103]) = false := by
    rw [ByteArray.toList_eq, logB_data, logL_pos u h0, beq_eq_false_iff_ne]
    intro e
    have := congrArg List.length e
    simp at this
  have hu : u < 18446744073709551616 := by unfold M64 at h; omega
  go_enter Tryd.func12, Tryd.ntmps12
  go_wp2_with fail
  refine (cut_yes u h0 _).mono ?_
  rintro e w1 ⟨rfl, rfl⟩
  go_wp2_with fail
  refine (parse_yes u h _).mono ?_
  rintro e w2 ⟨rfl, hb⟩
  go_wp2_with fail
  refine (log11 u hu _ (HT.out _ hb)).mono ?_
  rintro e w3 ⟨rfl, hb3⟩
  go_wp2
  go_ret2
  exact ⟨rfl, hb.trans (hb3.mono hb.size)⟩

theorem log12_yes (u : Nat) (h : u ≤ M64) (w : World) (htab : Lib.TabIs Tryd.prog w powName .u64 Lib.pow10Tab) :
    Calls Tryd.prog 12 #[.string (logB u)] w fun e w' => e = .returned (.tuple #[.int .u64 u, .bool true]) ∧ Below w.heap.size w w' := by
  rcases Nat.eq_zero_or_pos u with rfl | h0
  · exact (log12_zero w).mono fun e w' ⟨he, hw⟩ => ⟨he, by subst hw; exact Below.refl _ _⟩
  · exact log12_pos u h0 h w htab
theorem log7_yes (u : Nat) (h : u ≤ M64) (w : World) (htab : Lib.TabIs Tryd.prog w powName .u64 Lib.pow10Tab) :
    Calls Tryd.prog 7 #[.string (logB u)] w fun e w' => e = .returned (.tuple #[.int .u64 u, .bool true]) ∧ Below w.heap.size w w' := by
  go_enter Tryd.func7, Tryd.ntmps7
  go_wp2_with (go_at_call 12; refine (log12_yes u h _ htab).mono ?_; rintro e w' ⟨rfl, hb⟩)
  go_ret2
  exact ⟨rfl, hb⟩
end Go.Proofs.Qxb6617343aDoor
