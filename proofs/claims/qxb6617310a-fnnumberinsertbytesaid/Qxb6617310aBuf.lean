import Derived.Test.Qxb6617310aFits
import Derived.Laws.BytesArg
import Derived.Laws.OwnMore
namespace Go.Proofs.Qxb6617310a
open Go.RowKit

/-- Block g, which is no older than w, holds the cells xs of elements e; of what was there in w nothing has turned. -/
structure Buf (w wr : World) (g : Nat) (e : TypeId) (xs : List Value) : Prop where
  grown : Grown w wr
  new : w.heap.size ≤ g
  block : wr.heap[g]? = some (.cells xs.toArray e (0, 0))

theorem Buf.lt {w wr : World} {g : Nat} {e : TypeId} {xs : List Value} (h : Buf w wr g e xs) : g < wr.heap.size := by
  have := h.block
  have h2 := Array.getElem?_eq_some_iff.1 this
  exact h2.1
theorem Buf.cell {w wr : World} {g : Nat} {e : TypeId} {xs : List Value} (h : Buf w wr g e xs) (j : Nat) : wr.cell? ⟨g, j, none⟩ = xs[j]? := by
  rw [cell_of_row wr g j _ e (0, 0) h.block]; simp
theorem Buf.frozen {w wr : World} {g : Nat} {e : TypeId} {xs : List Value} (h : Buf w wr g e xs) (j : Nat) : wr.frozen? ⟨g, j, none⟩ = false :=
  frozen_of_row wr g j _ e h.block
theorem Buf.set {w wr : World} {g : Nat} {e : TypeId} {xs : List Value} (h : Buf w wr g e xs) (j : Nat) (u : Value) : Buf w (wr.setCell ⟨g, j, none⟩ u) g e (xs.set j u) :=
  ⟨h.grown.setCell h.new u, h.new, by
    rw [heap_setCell_same wr g j _ e u h.block]; simp⟩
theorem Buf.drewN {w wr : World} {g : Nat} {e : TypeId} {xs : List Value} (h : Buf w wr g e xs) (n : Nat) : Buf w (wr.drewN n) g e xs := ⟨grown_drewN n h.grown, h.new, h.block⟩
theorem Buf.mk0 {w wr : World} (h : Grown w wr) (e : TypeId) (xs : Array Value) : Buf w (wr.alloc (.cells xs e)) wr.heap.size e xs.toList :=
  ⟨h.alloc _ _, h.2.2, by simpa using (heap_alloc_new wr (.cells xs e))⟩
theorem Buf.other {w wr : World} {g : Nat} {e : TypeId} {xs : List Value} (h : Buf w wr g e xs) (cs : Array Value) (t : TypeId) : Buf w (wr.alloc (.cells cs t)) g e xs :=
  ⟨h.grown.alloc _ _, h.new, by rw [Below.heap_alloc _ _ _ h.lt]; exact h.block⟩
theorem Buf.setOther {w wr : World} {g g' : Nat} {e : TypeId} {xs : List Value} (h : Buf w wr g e xs) (hg : w.heap.size ≤ g') (hne : g ≠ g') (j : Nat) (u : Value) : Buf w (wr.setCell ⟨g', j, none⟩ u) g e xs :=
  ⟨h.grown.setCell hg u, h.new, by rw [Below.heap_setCell _ _ _ _ hne]; exact h.block⟩

/-- the cells of a slice of bytes -/
def u8s (bs : List UInt8) : List Value := bs.map fun b => .int .u8 (b.toNat : Int)
theorem u8s_len (bs : List UInt8) : (u8s bs).length = bs.length := by simp [u8s]
theorem u8s_set (bs : List UInt8) (j : Nat) (b : UInt8) : (u8s bs).set j (.int .u8 (b.toNat : Int)) = u8s (bs.set j b) := by simp [u8s, List.map_set]
theorem u8s_at (bs : List UInt8) (j : Nat) (h : j < bs.length) : (u8s bs)[j]? = some (.int .u8 (bs[j].toNat : Int)) := by simp [u8s, h]

def zero8 (n : Nat) : Array Value := (u8s (List.replicate n 0)).toArray
theorem info5 : (Try.prog.info? 5).map (fun i => (i.zero, i.size, i.bytes)) = some (some (.int .u8 0), 1, 1) := by kernel_rfl
theorem make8 (n : Nat) (h : n ≤ 2097152) (w : World) :
    (Instr.makeSlice 28 (.int .i64 (n : Int)) (.int .i64 (n : Int))).run Try.prog w = .ok (.slice (some ⟨w.heap.size, 0, none⟩) n n) (w.alloc (.cells (zero8 n) 5)) := by
  obtain ⟨i, hi, hz, hsz, hby⟩ := info_parts info5
  have hr := run_make (P := Try.prog) w 28 5 i _ Try.underlying28 hi hz .i64 .i64 n n (by omega) (Int.le_refl _) (by rw [hby]; omega) (by omega)
  rw [hr, hsz]
  have : madeCells (Value.int IntKind.u8 0).cells ((n : Int).toNat * 1) = zero8 n := by
    have h2 := toList_madeCells_one (.int .u8 0) n
    have e : (Value.int IntKind.u8 0).cells = #[.int .u8 0] := rfl
    rw [e, Int.toNat_natCast, Nat.mul_one]
    apply Array.toList_inj.1
    rw [h2]; simp [zero8, u8s]
  rw [this]; rfl

/-- the string of a block of bytes -/
def strB (bs : List UInt8) : ByteArray := ⟨bs.toArray⟩
theorem strB_data (bs : List UInt8) : (strB bs).data.toList = bs := by simp [strB]
theorem strB_size (bs : List UInt8) : (strB bs).size = bs.length := by simp [strB, ByteArray.size]
theorem conv8 {w wr : World} {g : Nat} (bs : List UInt8) (h : Buf w wr g 5 (u8s bs)) (n c : Nat) (hn : bs.length = n) :
    (convert 28 9 (.slice (some ⟨g, 0, none⟩) n c)).run Try.prog wr = .ok (.string (strB bs)) wr := by
  have := run_convert_bytes_arg (P := Try.prog) wr 28 5 Try.underlying28 Try.underlying5 g 0 n c (bs.map fun b => (b.toNat : Int)) (by simpa using hn)
    (fun i hi => by
      rw [Nat.zero_add, h.cell i, u8s_at bs i (by omega)]
      simp [List.getD, show i < bs.length by omega]) 9 Try.underlying9
  rw [this]
  have : strOfNums (bs.map fun b => (b.toNat : Int)) = strB bs := by
    simp [strOfNums, strB, List.map_map, Function.comp_def]
  rw [this]

theorem u8_of {a : Int} (h : (Lit.int .u8 a).wf = true) : ∃ b : UInt8, a = (b.toNat : Int) := by
  have : 0 ≤ a ∧ a < 256 := by
    simp [Lit.wf, IntKind.min, IntKind.max, IntKind.signed, IntKind.bits] at h
    omega
  exact ⟨UInt8.ofNat a.toNat, by simp; omega⟩
end Go.Proofs.Qxb6617310a
