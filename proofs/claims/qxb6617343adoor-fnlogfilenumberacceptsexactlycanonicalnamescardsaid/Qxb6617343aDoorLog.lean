import Derived.Test.Qxb6617343aDoorName
import Derived.Laws.Concat
import Derived.Laws.BytesArg
namespace Go.Proofs.Qxb6617343aDoor
open Go.Shelf Go.RowKit Go.Sort Go.Lib

/-- the bytes of the log file's name -/
def logL (n : Nat) : List UInt8 := if n = 0 then [108, 111, 103] else [108, 111, 103, 46] ++ Lib.decDigits n
def logB (n : Nat) : ByteArray := ⟨(logL n).toArray⟩

theorem log11_zero (w : World) :
    Calls Tryd.prog 11 #[.int .u64 0] w fun e w' => e = .returned (.string (logB 0)) ∧ w' = w := by
  go_enter Tryd.func11, Tryd.ntmps11
  go_wp2
  go_ret
  exact ⟨rfl, rfl⟩

theorem dec_len (n : Nat) (h : n < 18446744073709551616) : (Lib.decDigits n).length ≤ 20 := by
  rw [Lib.decDigits_length]
  rcases Nat.eq_zero_or_pos n with rfl | h1
  · rw [Lib.nDigits_small (by omega)]; omega
  · have := Lib.numDigits_eq n h1 h
    split at this <;> omega
theorem logB_pos (n : Nat) (h : 0 < n) : logB n = (⟨#[108, 111, 103, 46]⟩ : ByteArray) ++ ⟨(Lib.decDigits n).toArray⟩ := by
  unfold logB logL
  rw [if_neg (by omega)]
  exact (ByteArray.mk_append_mk [108, 111, 103, 46] (Lib.decDigits n)).symm

theorem log11_pos (n : Nat) (h0 : 0 < n) (h : n < 18446744073709551616) (w : World) (htab : Lib.TabIs Tryd.prog w powName .u64 Lib.pow10Tab) :
    Calls Tryd.prog 11 #[.int .u64 n] w fun e w' => e = .returned (.string (logB n)) ∧ Below w.heap.size w w' := by
  have hn0 : ((n : Int) == 0) = false := by simp; omega
  have hlen := dec_len n h
  have HL : Hid (logB n = (⟨#[108, 111, 103, 46]⟩ : ByteArray) ++ ⟨(Lib.decDigits n).toArray⟩) := logB_pos n h0
  go_enter Tryd.func11, Tryd.ntmps11
  go_wp2_with (go_at_call 13; refine (fmt13 n h _ htab).mono ?_; rintro e w' ⟨rfl, hb⟩)
  go_ret
  exact ⟨by rw [HL.out]; rfl, hb⟩

theorem log11 (n : Nat) (h : n < 18446744073709551616) (w : World) (htab : Lib.TabIs Tryd.prog w powName .u64 Lib.pow10Tab) :
    Calls Tryd.prog 11 #[.int .u64 n] w fun e w' => e = .returned (.string (logB n)) ∧ Below w.heap.size w w' := by
  rcases Nat.eq_zero_or_pos n with rfl | h0
  · exact (log11_zero w).mono fun e w' ⟨he, hw⟩ => ⟨he, by subst hw; exact Below.refl _ _⟩
  · exact log11_pos n h0 h w htab

theorem log6 (n : Nat) (h : n < 18446744073709551616) (w : World) (htab : Lib.TabIs Tryd.prog w powName .u64 Lib.pow10Tab) :
    Calls Tryd.prog 6 #[.int .u64 n] w fun e w' => e = .returned (.string (logB n)) ∧ Below w.heap.size w w' := by
  go_enter Tryd.func6, Tryd.ntmps6
  go_wp2_with (go_at_call 11; refine (log11 n h _ htab).mono ?_; rintro e w' ⟨rfl, hb⟩)
  go_ret
  exact ⟨rfl, hb⟩
theorem log6_zero (w : World) :
    Calls Tryd.prog 6 #[.int .u64 0] w fun e w' => e = .returned (.string (logB 0)) ∧ w' = w := by
  go_enter Tryd.func6, Tryd.ntmps6
  go_wp2_with (go_at_call 11; refine (log11_zero _).mono ?_; rintro e w' ⟨rfl, rfl⟩)
  go_ret
  exact ⟨rfl, rfl⟩

/-- zzDigit: the digit's own string -/
def digB (d : Nat) : ByteArray := ⟨#[UInt8.ofNat (48 + d)]⟩
theorem digit8 (d : Nat) (h : d < 10) (w : World) :
    Calls Tryd.prog 8 #[.int .u64 d] w fun e w' => e = .returned (.string (digB d)) ∧ Below w.heap.size w w' := by
  have hcv : (convert 28 9 (.slice (some ⟨w.heap.size, 0, none⟩) 1 1)).run Tryd.prog (w.alloc (.cells #[.int .u8 (48 + (d : Int))] 5)) = .ok (.string (digB d)) (w.alloc (.cells #[.int .u8 (48 + (d : Int))] 5)) := by
    have h1 := run_convert_bytes_arg (P := Tryd.prog) (w.alloc (.cells #[.int .u8 (48 + (d : Int))] 5)) 28 5 Tryd.underlying28 Tryd.underlying5 w.heap.size 0 1 1 [48 + (d : Int)] rfl
      (fun i hi => by
        have : i = 0 := by omega
        subst this
        rw [World.cell?_alloc_new]; rfl) 9 Tryd.underlying9
    rw [h1]
    have : strOfNums [48 + (d : Int)] = digB d := by
      have e : (48 + (d : Int)).toNat = 48 + d := by omega
      simp [strOfNums, digB, e]
    rw [this]
  go_enter Tryd.func8, Tryd.ntmps8
  go_wp2
  go_ret
  exact ⟨rfl, (Below.refl _ _).alloc (Nat.le_refl _) _⟩
theorem digit8i (d : Int) (h0 : 0 ≤ d) (h : d < 10) (w : World) :
    Calls Tryd.prog 8 #[.int .u64 d] w fun e w' => e = .returned (.string (digB d.toNat)) ∧ Below w.heap.size w w' := by
  obtain ⟨k, rfl⟩ := Int.eq_ofNat_of_zero_le h0
  rw [Int.toNat_natCast]
  exact digit8 k (by omega) w
theorem log6i (n : Int) (h0 : 0 ≤ n) (h : n < 18446744073709551616) (w : World) (htab : Lib.TabIs Tryd.prog w powName .u64 Lib.pow10Tab) :
    Calls Tryd.prog 6 #[.int .u64 n] w fun e w' => e = .returned (.string (logB n.toNat)) ∧ Below w.heap.size w w' := by
  obtain ⟨k, rfl⟩ := Int.eq_ofNat_of_zero_le h0
  rw [Int.toNat_natCast]
  exact log6 k (by omega) w htab
theorem logB_data (n : Nat) : (logB n).data.toList = logL n := by simp [logB]
theorem logL_len (n : Nat) (h : n < 18446744073709551616) : (logL n).length ≤ 24 := by
  unfold logL; split
  · simp
  · have := dec_len n h; simp; omega
theorem logB_size (n : Nat) (h : n < 18446744073709551616) : (logB n).size ≤ 24 := by
  have := logL_len n h
  simpa [logB, ByteArray.size] using this
theorem str_beq (a b : ByteArray) : (a.toList == b.toList) = decide (a = b) := by
  by_cases h : a = b
  · subst h; simp
  · rw [decide_eq_false h, beq_eq_false_iff_ne]
    intro e
    rw [ByteArray.toList_eq, ByteArray.toList_eq] at e
    exact h (ByteArray.ext (Array.toList_inj.1 e))
theorem logB_low (n : Nat) (h0 : 0 < n) (h : n < 10) : logB n = (logB 0 ++ (⟨#[46]⟩ : ByteArray)) ++ digB (n % 10) := by
  rw [logB_pos n h0, Lib.decDigits_one h, Nat.mod_eq_of_lt h]
  rfl
theorem logB_high (n : Nat) (h : 10 ≤ n) : logB n = logB (n / 10) ++ digB (n % 10) := by
  have e : Lib.decDigits n = Lib.decDigits (n / 10) ++ [UInt8.ofNat (48 + n % 10)] := by
    conv => lhs; rw [Lib.decDigits, dif_neg (by omega)]
  have h2 : logB (n / 10) ++ digB (n % 10) = ⟨(logL (n / 10) ++ [UInt8.ofNat (48 + n % 10)]).toArray⟩ := ByteArray.mk_append_mk _ _
  rw [h2]
  unfold logB logL
  rw [if_neg (by omega), if_neg (by omega), e, List.append_assoc]
end Go.Proofs.Qxb6617343aDoor
