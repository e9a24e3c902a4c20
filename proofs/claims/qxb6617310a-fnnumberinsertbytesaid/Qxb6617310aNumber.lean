import Derived.Test.Qxb6617310aFits
namespace Go.Proofs.Qxb6617310a
open Go.RowKit

/-- what a byte counts for, as Go's uint8 has it -/
def dig8 (c : UInt8) : Int := ((c.toNat : Int) - 48) % 256
theorem dig8_bd (c : UInt8) : 0 ≤ dig8 c ∧ dig8 c ≤ 255 := by unfold dig8; omega
/-- the number that a list of bytes writes, over all integers -/
def numZ (acc : Int) : List UInt8 → Int
  | [] => acc
  | c :: l => numZ (acc * 10 + dig8 c) l
def numL (l : List UInt8) : Int := numZ 0 l
theorem numZ_append (acc : Int) : ∀ (l m : List UInt8), numZ acc (l ++ m) = numZ (numZ acc l) m := by
  intro l
  induction l generalizing acc with
  | nil => intro m; rfl
  | cons c l ih => intro m; exact ih _ m
theorem numL_snoc (l : List UInt8) (c : UInt8) : numL (l ++ [c]) = numL l * 10 + dig8 c := by
  unfold numL; rw [numZ_append]; rfl
theorem numZ_acc (acc : Int) : ∀ l : List UInt8, numZ acc l = acc * 10 ^ l.length + numL l := by
  intro l
  unfold numL
  induction l generalizing acc with
  | nil => simp [numZ]
  | cons c l ih =>
    show numZ (acc * 10 + dig8 c) l = acc * 10 ^ (l.length + 1) + numZ (0 * 10 + dig8 c) l
    rw [ih, ih (0 * 10 + dig8 c), Int.pow_succ, Int.zero_mul, Int.zero_add, Int.add_mul, Int.mul_assoc, Int.mul_comm 10 (10 ^ l.length), Int.add_assoc]
theorem numL_cut (p q : List UInt8) : numL (p ++ q) = numL p * 10 ^ q.length + numL q := by
  unfold numL; rw [numZ_append, numZ_acc]; rfl
theorem numL_ins (p q : List UInt8) (d : UInt8) : numL (p ++ d :: q) = numL p * 10 ^ q.length * 10 + dig8 d * 10 ^ q.length + numL q := by
  have e : p ++ d :: q = (p ++ [d]) ++ q := by simp
  rw [e, numL_cut, numL_snoc, Int.add_mul, Int.mul_assoc, Int.mul_comm 10, Int.mul_assoc]

theorem w_ex (a : Int) : ∃ q, wrap64 a = a + 18446744073709551616 * q := ⟨-((a + 9223372036854775808) / 18446744073709551616), by unfold wrap64; omega⟩
theorem w_eq {a b : Int} (q : Int) (h : a = b + 18446744073709551616 * q) : wrap64 a = wrap64 b := by unfold wrap64; omega
theorem w_w (a : Int) : wrap64 (wrap64 a) = wrap64 a := by obtain ⟨q, h⟩ := w_ex a; exact w_eq q h
theorem w_add (a b : Int) : wrap64 (wrap64 a + wrap64 b) = wrap64 (a + b) := by
  obtain ⟨q, h⟩ := w_ex a; obtain ⟨r, k⟩ := w_ex b
  exact w_eq (q + r) (by rw [h, k]; omega)
theorem w_addr (a b : Int) : wrap64 (wrap64 a + b) = wrap64 (a + b) := by
  obtain ⟨q, h⟩ := w_ex a
  exact w_eq q (by rw [h]; omega)
theorem w_mulr (a b : Int) : wrap64 (wrap64 a * b) = wrap64 (a * b) := by
  obtain ⟨q, h⟩ := w_ex a
  refine w_eq (q * b) ?_
  rw [h, Int.add_mul, Int.mul_assoc]
theorem w_mul (a b : Int) : wrap64 (wrap64 a * wrap64 b) = wrap64 (a * b) := by
  rw [w_mulr, Int.mul_comm, w_mulr, Int.mul_comm]
theorem take_snoc (s : ByteArray) (k : Nat) (h : k < s.size) : s.data.toList.take (k + 1) = s.data.toList.take k ++ [s[k]] := by
  rw [List.take_succ_eq_append_getElem (by simpa using h)]; rfl
theorem num_step (s : ByteArray) (k : Nat) (h : k < s.size) : wrap64 (wrap64 (wrap64 (numL (s.data.toList.take k)) * 10) + dig8 s[k]) = wrap64 (numL (s.data.toList.take (k + 1))) := by
  rw [take_snoc s k h, numL_snoc, w_mulr, w_addr]

theorem ret_int {k : IntKind} {a b : Int} (h : a = b) : Ending.returned (.int k a) = .returned (.int k b) := by rw [h]

set_option maxHeartbeats 400000 in
theorem number_any (s : ByteArray) (w : World) (hs : s.size ≤ maxLen) :
    Calls Try.prog 16 #[.string s] w fun e w' => e = .returned (.int .i64 (wrap64 (numL s.data.toList))) ∧ w' = w := by
  unfold maxLen at hs
  go_enter Try.func16, Try.ntmps16
  go_wp2
  go_loop [3, 4] (fun n i => ∃ k : Nat, k ≤ s.size ∧ i = .int .i64 k ∧ n = .int .i64 (wrap64 (numL (s.data.toList.take k)))) (fun _ i => s.size - (intOf i).toNat)
  case atStart => exact ⟨0, Nat.zero_le _, rfl, by simp [numL, numZ, wrap64]⟩
  case round =>
    obtain ⟨k, hk, rfl, rfl⟩ := hrel
    by_cases hlt : k < s.size
    · have hst := num_step s k hlt
      have HS : Hid (wrap64 (wrap64 (wrap64 (numL (s.data.toList.take k)) * 10) + dig8 s[k]) = wrap64 (numL (s.data.toList.take (k + 1)))) := hst
      clear hst
      go_wp2
      go_round
      case rel => exact ⟨k + 1, by omega, by go_num, congrArg (Value.int IntKind.i64) HS.out⟩
      case measure => simp [intOf]; omega
    · go_wp2
      go_ret
      exact ⟨ret_int (by rw [List.take_of_length_le (by simp; omega)]), rfl⟩

theorem zznumber_any (s : ByteArray) (w : World) (hs : s.size ≤ maxLen) :
    Calls Try.prog 13 #[.string s] w fun e w' => e = .returned (.int .i64 (wrap64 (numL s.data.toList))) ∧ w' = w := by
  go_enter Try.func13, Try.ntmps13
  go_wp2_with (go_at_call 16; refine (number_any _ _ hs).mono ?_; rintro e w' ⟨rfl, rfl⟩)
  go_ret
  exact ⟨rfl, rfl⟩
/-- the same, the number behind a name -/
theorem zznumber_eq (s : ByteArray) (v : Int) (w : World) (hs : s.size ≤ maxLen) (hv : Hid (wrap64 (numL s.data.toList) = v)) :
    Calls Try.prog 13 #[.string s] w fun e w' => e = .returned (.int .i64 v) ∧ w' = w := by
  have := zznumber_any s w hs
  rw [hv.out] at this; exact this

/-- byte d put into l at place k -/
def insB (l : List UInt8) (k : Nat) (d : UInt8) : List UInt8 := l.take k ++ d :: l.drop k
theorem insB_len (l : List UInt8) (k : Nat) (d : UInt8) (h : k ≤ l.length) : (insB l k d).length = l.length + 1 := by simp [insB]; omega
theorem insB_lo (l : List UInt8) (k : Nat) (d : UInt8) (h : k ≤ l.length) (i : Nat) (hi : i < k) (h' : i < (insB l k d).length) : (insB l k d)[i] = l[i]'(by omega) := by
  have : (insB l k d)[i]? = l[i]? := by
    unfold insB; rw [List.getElem?_append_left (by simp; omega), List.getElem?_take, if_pos hi]
  rw [List.getElem?_eq_getElem h', List.getElem?_eq_getElem (by omega)] at this
  exact Option.some.inj this
theorem insB_at (l : List UInt8) (k : Nat) (d : UInt8) (h : k ≤ l.length) (h' : k < (insB l k d).length) : (insB l k d)[k] = d := by
  have hl : (l.take k).length = k := by simp; omega
  have : (insB l k d)[k]? = some d := by
    unfold insB; rw [List.getElem?_append_right (by omega), hl, Nat.sub_self]; rfl
  rw [List.getElem?_eq_getElem h'] at this
  exact Option.some.inj this
theorem insB_hi (l : List UInt8) (k : Nat) (d : UInt8) (h : k ≤ l.length) (i : Nat) (hi : k ≤ i) (hil : i < l.length) (h' : i + 1 < (insB l k d).length) : (insB l k d)[i + 1] = l[i] := by
  have hl : (l.take k).length = k := by simp; omega
  have : (insB l k d)[i + 1]? = l[i]? := by
    unfold insB; rw [List.getElem?_append_right (by omega), hl, show i + 1 - k = (i - k) + 1 from by omega, List.getElem?_cons_succ, List.getElem?_drop, show k + (i - k) = i from by omega]
  rw [List.getElem?_eq_getElem h', List.getElem?_eq_getElem hil] at this
  exact Option.some.inj this

def p10 (n : Nat) : Int := 10 ^ n
theorem p10_step (i : Nat) : wrap64 (wrap64 (p10 i) * 10) = wrap64 (p10 (i + 1)) := by
  rw [w_mulr]; unfold p10; rw [Int.pow_succ]
/-- the law, in Go's arithmetic: the joined string -/
theorem law_join (p q : List UInt8) (d : UInt8) (T NP NQ : Int) (hT : wrap64 (p10 q.length) = T) (hP : wrap64 (numL p) = NP) (hQ : wrap64 (numL q) = NQ) :
    wrap64 (numL (p ++ d :: q)) = wrap64 (wrap64 (wrap64 (wrap64 (NP * T) * 10) + wrap64 (((d.toNat : Int) - 48) % 256 * T)) + NQ) := by
  subst hT hP hQ
  have e1 : wrap64 (((d.toNat : Int) - 48) % 256 * wrap64 (p10 q.length)) = wrap64 (dig8 d * p10 q.length) := by
    rw [Int.mul_comm, w_mulr, Int.mul_comm]; rfl
  rw [numL_ins, w_mul, w_mulr, e1, w_add (numL p * p10 q.length * 10) (dig8 d * p10 q.length), w_add]; rfl
theorem law_whole (p q : List UInt8) (T NP NQ : Int) (hT : wrap64 (p10 q.length) = T) (hP : wrap64 (numL p) = NP) (hQ : wrap64 (numL q) = NQ) :
    wrap64 (numL (p ++ q)) = wrap64 (wrap64 (NP * T) + NQ) := by
  subst hT hP hQ
  rw [numL_cut, w_mul, w_add]; rfl
end Go.Proofs.Qxb6617310a
