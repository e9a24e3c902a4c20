import Derived.Test.Qxb6617310aRows
import Derived.WalkKit
import Derived.ProofKit
import Derived.BigQuiet
import Derived.Laws.OwnMore
import Derived.Laws.CopyOwn
namespace Go.Proofs.Qxb6617310a
open Go.RowKit

/-- Block g, which is no older than w, holds the cells xs of elements e; below w's old size nothing has turned. -/
structure Row (w wr : World) (g : Nat) (e : TypeId) (xs : List Value) : Prop where
  below : Below w.heap.size w wr
  new : w.heap.size ≤ g
  block : wr.heap[g]? = some (.cells xs.toArray e (0, 0))

theorem Row.lt {w wr : World} {g : Nat} {e : TypeId} {xs : List Value} (h : Row w wr g e xs) : g < wr.heap.size :=
  (Array.getElem?_eq_some_iff.1 h.block).1
theorem Row.cell {w wr : World} {g : Nat} {e : TypeId} {xs : List Value} (h : Row w wr g e xs) (j : Nat) : wr.cell? ⟨g, j, none⟩ = xs[j]? := by
  rw [cell_of_row wr g j _ e (0, 0) h.block]; simp
theorem Row.frozen {w wr : World} {g : Nat} {e : TypeId} {xs : List Value} (h : Row w wr g e xs) (j : Nat) : wr.frozen? ⟨g, j, none⟩ = false :=
  frozen_of_row wr g j _ e h.block
theorem Row.set {w wr : World} {g : Nat} {e : TypeId} {xs : List Value} (h : Row w wr g e xs) (j : Nat) (u : Value) : Row w (wr.setCell ⟨g, j, none⟩ u) g e (xs.set j u) :=
  ⟨h.below.setCell h.new u, h.new, by rw [heap_setCell_same wr g j _ e u h.block]; simp⟩
theorem Row.drewN {w wr : World} {g : Nat} {e : TypeId} {xs : List Value} (h : Row w wr g e xs) (n : Nat) : Row w (wr.drewN n) g e xs :=
  ⟨h.below.trans ⟨rfl, rfl, rfl, Nat.le_refl _, fun _ _ => rfl⟩, h.new, h.block⟩
theorem Row.mk0 {w wr : World} (h : Below w.heap.size w wr) (e : TypeId) (xs : Array Value) : Row w (wr.alloc (.cells xs e)) wr.heap.size e xs.toList :=
  ⟨h.alloc h.size _, h.size, by simpa using (heap_alloc_new wr (.cells xs e))⟩
theorem Row.other {w wr : World} {g : Nat} {e : TypeId} {xs : List Value} (h : Row w wr g e xs) (o : Obj) : Row w (wr.alloc o) g e xs :=
  ⟨h.below.alloc h.below.size _, h.new, by rw [Below.heap_alloc _ _ _ h.lt]; exact h.block⟩
theorem Row.setOther {w wr : World} {g g' : Nat} {e : TypeId} {xs : List Value} (h : Row w wr g e xs) (hg : w.heap.size ≤ g') (hne : g ≠ g') (j : Nat) (u : Value) : Row w (wr.setCell ⟨g', j, none⟩ u) g e xs :=
  ⟨h.below.setCell hg u, h.new, by rw [Below.heap_setCell _ _ _ _ hne]; exact h.block⟩
theorem Row.setRow {w wr : World} {g : Nat} {e : TypeId} {xs : List Value} (h : Row w wr g e xs) (ys : List Value) : Row w (wr.setRow g ys.toArray) g e ys :=
  ⟨below_setRow h.below h.new _, h.new, setRow_heap _ _ _ _ _ _ h.block⟩

/-- the cells of a slice of strings -/
def strs (L : List ByteArray) : List Value := L.map .string
theorem strs_len (L : List ByteArray) : (strs L).length = L.length := by simp [strs]
theorem strs_set (L : List ByteArray) (j : Nat) (b : ByteArray) : (strs L).set j (.string b) = strs (L.set j b) := by simp [strs, List.map_set]
theorem strs_at (L : List ByteArray) (j : Nat) (h : j < L.length) : (strs L)[j]? = some (.string L[j]) := by simp [strs, h]

/-- what is known of a slice of strings: where it has an element, its cells lie at its address -/
def IsS (w : World) (a : Option Addr) (L : List ByteArray) : Prop :=
  0 < L.length → ∃ b off, a = some ⟨b, off, none⟩ ∧ ∀ (i : Nat) (h : i < L.length), w.cell? ⟨b, off + i, none⟩ = some (.string L[i])

theorem str_beq (a b : ByteArray) : (a.toList == b.toList) = decide (a = b) := by
  by_cases h : a = b
  · subst h; simp
  · rw [decide_eq_false h, beq_eq_false_iff_ne]
    intro e
    rw [ByteArray.toList_eq, ByteArray.toList_eq] at e
    exact h (ByteArray.ext (Array.toList_inj.1 e))
def hasL (L : List ByteArray) (t : ByteArray) : Bool := L.any fun s => decide (s = t)
theorem hasL_iff (L : List ByteArray) (t : ByteArray) : hasL L t = true ↔ t ∈ L := by
  unfold hasL; rw [List.any_eq_true]
  exact ⟨fun ⟨s, hs, e⟩ => (of_decide_eq_true e) ▸ hs, fun h => ⟨t, h, decide_eq_true rfl⟩⟩

theorem ret_bool {a b : Bool} (h : a = b) : Ending.returned (.bool a) = .returned (.bool b) := by rw [h]

theorem hasL_yes (L : List ByteArray) (t : ByteArray) (k : Nat) (h : k < L.length) (e : L[k] = t) : hasL L t = true := by
  rw [hasL_iff, ← e]; exact List.getElem_mem h
theorem hasL_no (L : List ByteArray) (t : ByteArray) (h : ∀ (k : Nat) (h : k < L.length), L[k] ≠ t) : hasL L t = false := by
  rw [← Bool.not_eq_true, hasL_iff]
  intro hq
  obtain ⟨k, hk, rfl⟩ := List.getElem_of_mem hq
  exact h k hk rfl

set_option maxHeartbeats 400000 in
theorem contains_any (a : Option Addr) (cap : Nat) (L : List ByteArray) (t : ByteArray) (w : World) (hl : L.length ≤ maxLen) (ha : IsS w a L) :
    Calls Try.prog 14 #[.slice a L.length cap, .string t] w fun e w' => e = .returned (.bool (hasL L t)) ∧ w' = w := by
  unfold maxLen at hl
  have HA : Hid (IsS w a L) := ha
  clear ha
  go_enter Try.func14, Try.ntmps14
  go_wp2
  go_loop [6, 9] (fun _ i => ∃ k : Nat, k ≤ L.length ∧ i = .int .i64 k ∧ ∀ (j : Nat) (h : j < L.length), j < k → L[j] ≠ t) (fun _ i => L.length - (intOf i).toNat)
  case atStart => exact ⟨0, Nat.zero_le _, rfl, fun j _ h => absurd h (Nat.not_lt_zero _)⟩
  case round =>
    obtain ⟨k, hk, rfl, hall⟩ := hrel
    have HN : Hid (∀ (j : Nat) (h : j < L.length), j < k → L[j] ≠ t) := hall
    clear hall
    by_cases hlt : k < L.length
    · obtain ⟨b, off, rfl, hc⟩ := HA.out (by omega)
      have hck := hc k hlt
      clear hc
      by_cases he : L[k] = t
      · have he' : (L[k].toList == t.toList) = true := by rw [str_beq]; simpa using he
        have HE : Hid (hasL L t = true) := hasL_yes L t k hlt he
        clear he
        go_wp2
        go_ret
        exact ⟨ret_bool HE.out.symm, rfl⟩
      · have he' : (L[k].toList == t.toList) = false := by rw [str_beq]; simpa using he
        have HE : Hid (L[k] ≠ t) := he
        clear he
        go_wp2
        go_round
        case rel => exact ⟨k + 1, by omega, by go_num, fun j h hj => by
          by_cases e : j = k
          · subst e; exact HE.out
          · exact HN.out j h (by omega)⟩
        case measure => simp [intOf]; omega
    · go_wp2
      go_ret
      exact ⟨ret_bool (hasL_no L t fun j h => HN.out j h (by omega)).symm, rfl⟩

theorem zzcontains_any (a : Option Addr) (cap : Nat) (L : List ByteArray) (t : ByteArray) (w : World) (hl : L.length ≤ maxLen) (ha : IsS w a L) :
    Calls Try.prog 8 #[.slice a L.length cap, .string t] w fun e w' => e = .returned (.bool (hasL L t)) ∧ w' = w := by
  have HA : Hid (IsS w a L) := ha
  clear ha
  go_enter Try.func8, Try.ntmps8
  go_wp2_with (go_at_call 14; refine (contains_any _ _ _ _ _ hl HA.out).mono ?_; rintro e w' ⟨rfl, rfl⟩)
  go_ret
  exact ⟨rfl, rfl⟩
/-- the same, length and answer behind names -/
theorem zzcontains_eq (a : Option Addr) (n cap : Nat) (L : List ByteArray) (t : ByteArray) (v : Bool) (w : World) (hn : Hid (L.length = n)) (hl : n ≤ maxLen) (ha : Hid (IsS w a L)) (hv : Hid (hasL L t = v)) :
    Calls Try.prog 8 #[.slice a n cap, .string t] w fun e w' => e = .returned (.bool v) ∧ w' = w := by
  have e := hn.out
  subst e
  have := zzcontains_any a cap L t w hl ha.out
  rw [hv.out] at this; exact this

def Z7 (L : List ByteArray) (s t : ByteArray) (w : World) (e : Ending) (w' : World) : Prop :=
  ∃ b : Bool, e = .returned (.bool b) ∧ w' = w ∧ (b = true → L.length ≤ 1048576 ∧ s.size ≤ 1048576 ∧ t.size ≤ 1048576 ∧ ∀ (j : Nat) (h : j < L.length), L[j].size ≤ 1048576)
theorem Z7.no (L : List ByteArray) (s t : ByteArray) (w : World) : Z7 L s t w (.returned (.bool false)) w := ⟨false, rfl, rfl, fun h => by cases h⟩
theorem Z7.yes (L : List ByteArray) (s t : ByteArray) (w : World) (h : L.length ≤ 1048576 ∧ s.size ≤ 1048576 ∧ t.size ≤ 1048576 ∧ ∀ (j : Nat) (h : j < L.length), L[j].size ≤ 1048576) : Z7 L s t w (.returned (.bool true)) w := ⟨true, rfl, rfl, fun _ => h⟩

set_option maxHeartbeats 800000 in
/-- zzBytes: it answers some bool; 'true' only where the lengths are small. -/
theorem zzbytes7_any (a : Option Addr) (cap : Nat) (L : List ByteArray) (k : Int) (s t : ByteArray) (w : World) (hl : L.length ≤ maxLen) (hs : s.size ≤ maxLen) (ht : t.size ≤ maxLen) (ha : IsS w a L) (hL : ∀ (j : Nat) (h : j < L.length), L[j].size ≤ maxLen) :
    Calls Try.prog 7 #[.slice a L.length cap, .int .i64 k, .string s, .string t] w fun e w' => Z7 L s t w e w' := by
  unfold maxLen at hl hs ht hL
  have HA : Hid (IsS w a L) := ha
  have HL : Hid (∀ (j : Nat) (h : j < L.length), L[j].size ≤ 2 ^ 63 - 1) := hL
  clear ha hL
  by_cases h0 : L.length ≤ 1048576
  · go_enter Try.func7, Try.ntmps7
    go_wp2
    go_loop [9, 10] (fun z i => ∃ k m : Nat, k ≤ L.length ∧ i = .int .i64 k ∧ z = .int .i64 m ∧ m ≤ 1048576 ∧ ∀ (j : Nat) (h : j < L.length), j < k → L[j].size ≤ 1048576) (fun _ i => L.length - (intOf i).toNat)
    case atStart => exact ⟨0, L.length, Nat.zero_le _, rfl, by go_num, h0, fun j _ h => absurd h (Nat.not_lt_zero _)⟩
    case round =>
      obtain ⟨k, m, hk, rfl, rfl, hm, hall⟩ := hrel
      have HN : Hid (∀ (j : Nat) (h : j < L.length), j < k → L[j].size ≤ 1048576) := hall
      clear hall
      by_cases hlt : k < L.length
      · obtain ⟨b, off, rfl, hc⟩ := HA.out (by omega)
        have hck := hc k hlt
        have hLk := HL.out k hlt
        clear hc
        by_cases hsm : L[k].size ≤ 1048576
        · by_cases hsum : m + L[k].size ≤ 1048576
          · go_wp2
            go_round
            case rel => exact ⟨k + 1, m + L[k].size, by omega, by go_num, by go_num, hsum, fun j h hj => by
              by_cases e : j = k
              · subst e; exact hsm
              · exact HN.out j h (by omega)⟩
            case measure => simp [intOf]; omega
          · go_wp2
            go_ret
            exact Z7.no L s t w
        · go_wp2
          go_ret
          exact Z7.no L s t w
      · by_cases h1 : s.size ≤ 1048576
        · by_cases h2 : m + s.size ≤ 1048576
          · by_cases h3 : t.size ≤ 1048576
            · by_cases h4 : m + s.size + t.size ≤ 1048576
              · go_wp2
                go_ret
                exact Z7.yes L s t w ⟨h0, h1, h3, fun j h => HN.out j h (by omega)⟩
              · go_wp2
                go_ret
                exact Z7.no L s t w
            · go_wp2
              go_ret
              exact Z7.no L s t w
          · go_wp2
            go_ret
            exact Z7.no L s t w
        · go_wp2
          go_ret
          exact Z7.no L s t w
  · go_enter Try.func7, Try.ntmps7
    go_wp2
    go_ret
    exact Z7.no L s t w
end Go.Proofs.Qxb6617310a
