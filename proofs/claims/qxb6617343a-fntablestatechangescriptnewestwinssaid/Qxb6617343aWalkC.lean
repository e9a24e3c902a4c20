import Derived.Test.Qxb6617343aWalkB
namespace Go.Proofs.Qxb6617343a
open Go.RowKit

/-- Block g, which is no older than block B, holds the cells xs of elements e; below B nothing has turned since w. -/
structure Row (B : Nat) (w wr : World) (g : Nat) (e : TypeId) (xs : List Value) : Prop where
  below : Below B w wr
  new : B ≤ g
  block : wr.heap[g]? = some (.cells xs.toArray e (0, 0))

section
variable {B : Nat} {w wr : World} {g : Nat} {e : TypeId} {xs : List Value}
theorem Row.lt (h : Row B w wr g e xs) : g < wr.heap.size := (Array.getElem?_eq_some_iff.1 h.block).1
theorem Row.cell (h : Row B w wr g e xs) (j : Nat) : wr.cell? ⟨g, j, none⟩ = xs[j]? := by
  rw [cell_of_row wr g j _ e (0, 0) h.block]; simp
theorem Row.frozen (h : Row B w wr g e xs) (j : Nat) : wr.frozen? ⟨g, j, none⟩ = false := frozen_of_row wr g j _ e h.block
theorem Row.set (h : Row B w wr g e xs) (j : Nat) (u : Value) : Row B w (wr.setCell ⟨g, j, none⟩ u) g e (xs.set j u) :=
  ⟨h.below.setCell h.new u, h.new, by rw [heap_setCell_same wr g j _ e u h.block]; simp⟩
theorem Row.mk0 (h : Below B w wr) (hB : B ≤ wr.heap.size) (e : TypeId) (xs : Array Value) : Row B w (wr.alloc (.cells xs e)) wr.heap.size e xs.toList :=
  ⟨h.alloc hB _, hB, by simpa using (heap_alloc_new wr (.cells xs e))⟩
end

/-- the cells of a slice of bytes -/
def u8s (bs : List UInt8) : List Value := bs.map fun b => .int .u8 (b.toNat : Int)
theorem u8s_len (bs : List UInt8) : (u8s bs).length = bs.length := by simp [u8s]
theorem u8s_set (bs : List UInt8) (j : Nat) (b : UInt8) : (u8s bs).set j (.int .u8 (b.toNat : Int)) = u8s (bs.set j b) := by simp [u8s, List.map_set]
theorem u8s_at (bs : List UInt8) (j : Nat) (h : j < bs.length) : (u8s bs)[j]? = some (.int .u8 (bs[j].toNat : Int)) := by simp [u8s, h]

/-- the first j elements of l, and z behind them -/
def cpy (l : List UInt8) (j : Nat) : List UInt8 := l.take j ++ List.replicate (l.length - j) 0
theorem cpy_zero (l : List UInt8) : cpy l 0 = List.replicate l.length 0 := by simp [cpy]
theorem cpy_all (l : List UInt8) : cpy l l.length = l := by simp [cpy]
theorem cpy_len (l : List UInt8) (j : Nat) (h : j ≤ l.length) : (cpy l j).length = l.length := by simp [cpy]; omega
theorem cpy_set (l : List UInt8) (j : Nat) (h : j < l.length) : (cpy l j).set j l[j] = cpy l (j + 1) := by
  unfold cpy
  have e : l.length - j = (l.length - (j + 1)) + 1 := by omega
  have hl : (l.take j).length = j := by simp; omega
  rw [List.set_append_right _ _ (by omega), hl, Nat.sub_self, e, List.replicate_succ, List.set_cons_zero, List.take_succ_eq_append_getElem h, List.append_assoc]
  rfl

def zero8 (n : Nat) : Array Value := (u8s (List.replicate n 0)).toArray
theorem info5 : (Try.prog.info? 5).map (fun i => (i.zero, i.size, i.bytes)) = some (some (.int .u8 0), 1, 1) := by kernel_rfl
theorem make8 (n : Nat) (h : n ≤ 2097152) (w : World) :
    (Instr.makeSlice 26 (.int .i64 (n : Int)) (.int .i64 (n : Int))).run Try.prog w = .ok (.slice (some ⟨w.heap.size, 0, none⟩) n n) (w.alloc (.cells (zero8 n) 5)) := by
  obtain ⟨i, hi, hz, hsz, hby⟩ := info_parts info5
  have hr := run_make (P := Try.prog) w 26 5 i _ Try.underlying26 hi hz .i64 .i64 n n (by omega) (Int.le_refl _) (by rw [hby]; omega) (by omega)
  rw [hr, hsz]
  have : madeCells (Value.int IntKind.u8 0).cells ((n : Int).toNat * 1) = zero8 n := by
    have h2 := toList_madeCells_one (.int .u8 0) n
    have e : (Value.int IntKind.u8 0).cells = #[.int .u8 0] := rfl
    rw [e, Int.toNat_natCast, Nat.mul_one]
    apply Array.toList_inj.1
    rw [h2]; simp [zero8, u8s]
  rw [this]; rfl

/-- what zzClone leaves -/
def Z10 (o : OB) (w : World) (e : Ending) (w' : World) : Prop := ∃ t : SL, e = .returned (.slice t.a t.n t.c) ∧ IsV w' t o ∧ Below w.heap.size w w'

set_option maxHeartbeats 1000000 in
theorem zzclone (t : SL) (o : OB) (w : World) (h : IsV w t o) : Calls Try.prog 10 #[.slice t.a t.n t.c] w fun e w' => Z10 o w e w' := by
  have hq := run_eql_nil
  cases o with
  | none =>
    have a1 : t.a.isNone = true := by rw [h.2.1.2 rfl]; rfl
    clear h
    go_enter Try.func10, Try.ntmps10
    go_wp2
    go_ret
    exact ⟨⟨none, 0, 0⟩, rfl, ⟨rfl, ⟨fun _ => rfl, fun _ => rfl⟩, BAt.nil _ _⟩, Below.refl _ _⟩
  | some x =>
    have a1 : t.a.isNone = false := by
      cases h' : t.a with
      | none => exact absurd (h.2.1.1 h') (by simp)
      | some y => rfl
    have hn : t.n = x.length := h.1
    have hx : x.length ≤ 1048576 := h.2.2.1
    have HB : Hid (BAt w t.a x) := h.2.2
    clear h
    have hmk := make8 x.length (by omega) w
    have hrow0 := Row.mk0 (Below.refl w.heap.size w) (Nat.le_refl _) 5 (zero8 x.length)
    have HR0 : Hid (Row w.heap.size w (w.alloc (.cells (zero8 x.length) 5)) w.heap.size 5 (u8s (cpy x 0))) := by
      rw [cpy_zero]; exact hrow0
    clear hrow0
    rw [hn]
    clear hn
    generalize t.a = ta at a1 HB ⊢
    go_enter Try.func10, Try.ntmps10
    go_wp2
    go_loopw [4] (fun i wr => ∃ j : Nat, j ≤ x.length ∧ i = .int .i64 j ∧ Row w.heap.size w wr w.heap.size 5 (u8s (cpy x j))) (fun i _ => x.length - (intOf i).toNat)
    case atStart => exact ⟨0, Nat.zero_le _, rfl, HR0.out⟩
    case round =>
      clear HR0 hmk
      obtain ⟨j, hj, rfl, hrow⟩ := hrel
      by_cases hlt : j < x.length
      · obtain ⟨b, off, rfl, hc⟩ := HB.out.2 (by omega)
        have hsrc : wr.cell? ⟨b, off + j, none⟩ = some (.int .u8 (x[j].toNat : Int)) := by
          rw [hrow.below.cell (p := ⟨b, off + j, none⟩) (cell_lt (hc j hlt))]; exact hc j hlt
        have hcell := hrow.cell j
        rw [u8s_at _ j (by rw [cpy_len _ _ hj]; exact hlt)] at hcell
        have hfz := hrow.frozen j
        have HS : Hid (Row w.heap.size w (wr.setCell ⟨w.heap.size, j, none⟩ (.int .u8 (x[j].toNat : Int))) w.heap.size 5 (u8s (cpy x (j + 1)))) := by
          have := hrow.set j (.int .u8 (x[j].toNat : Int))
          rw [u8s_set, cpy_set x j hlt] at this; exact this
        clear hrow hc
        go_wp2
        go_roundw
        case rel => exact ⟨j + 1, by omega, by go_num, HS.out⟩
        case measure => simp [intOf]; omega
      · have hje : j = x.length := by omega
        rw [hje, cpy_all] at hrow
        clear hje
        have HR : Hid (Row w.heap.size w wr w.heap.size 5 (u8s x)) := hrow
        clear hrow
        go_wp2
        go_ret
        exact ⟨⟨some ⟨w.heap.size, 0, none⟩, x.length, x.length⟩, rfl, ⟨rfl, ⟨fun h => (by cases h), fun h => (by cases h)⟩, hx, fun _ => ⟨w.heap.size, 0, rfl, fun i hi => by
          rw [Nat.zero_add, HR.out.cell i]; exact u8s_at x i hi⟩⟩, HR.out.below⟩
end Go.Proofs.Qxb6617343a
