import Derived.Test.Qxb6617343aFrame
namespace Go.Proofs.Qxb6617343a
open Go.RowKit
def zRW : RW := ⟨⟨none, 0, 0⟩, ⟨none, 0, 0⟩, 0⟩
def zAgg : Value := .agg #[.slice none 0 0, .slice none 0 0, .int .u64 0]
theorem info36 : (Try.prog.info? 36).map (fun i => (i.zero, i.size, i.bytes)) = some (some zAgg, 3, 56) := by kernel_rfl
theorem info3 : (Try.prog.info? 3).map (fun i => (i.zero, i.size, i.bytes)) = some (some (.int .i64 0), 1, 8) := by kernel_rfl
theorem made_rows (n : Nat) : madeCells zAgg.cells (n * 3) = (rowsC (List.replicate n zRW)).toArray := by
  have e : zAgg.cells = #[.slice none 0 0, .slice none 0 0, .int .u64 0] := rfl
  rw [e]
  apply Array.ext
  · simp [size_madeCells, rowsC_len]
  · intro i h1 h2
    have hs : i < n * 3 := by simpa [size_madeCells] using h1
    have h3 := rowsC_at (List.replicate n zRW) (i / 3) (by simp; omega) (i % 3) (by omega)
    have h4 : i / 3 * 3 + i % 3 = i := by omega
    rw [h4] at h3
    have h5 : (rowsC (List.replicate n zRW))[i]? = some ((rowsC (List.replicate n zRW)).toArray[i]'h2) := by simp
    rw [h5] at h3
    have h6 : (rowC ((List.replicate n zRW)[i / 3]'(by simp; omega)))[i % 3]? = some ((#[Value.slice none 0 0, .slice none 0 0, .int .u64 0] : Array Value)[i % 3]'(by simp; omega)) := by
      simp only [List.getElem_replicate]
      have : i % 3 = 0 ∨ i % 3 = 1 ∨ i % 3 = 2 := by omega
      rcases this with h | h | h <;> simp [h, rowC, zRW]
    rw [h6] at h3
    have := Option.some.inj h3
    rw [this]
    have h7 : i % 3 < 3 := by omega
    simp [madeCells, h7]
theorem make33 (n : Nat) (h : n ≤ 4096) (w : World) :
    (Instr.makeSlice 33 (.int .i64 (n : Int)) (.int .i64 (n : Int))).run Try.prog w = .ok (.slice (some ⟨w.heap.size, 0, none⟩) n n) (w.alloc (.cells (rowsC (List.replicate n zRW)).toArray 36)) := by
  obtain ⟨i, hi, hz, hsz, hby⟩ := info_parts info36
  have hr := run_make (P := Try.prog) w 33 36 i _ Try.underlying33 hi hz .i64 .i64 n n (by omega) (Int.le_refl _) (by rw [hby]; omega) (by omega)
  rw [hr, hsz, Int.toNat_natCast, made_rows]
theorem make52 (n : Nat) (h : n ≤ 4096) (w : World) :
    (Instr.makeSlice 52 (.int .i64 (n : Int)) (.int .i64 (n : Int))).run Try.prog w = .ok (.slice (some ⟨w.heap.size, 0, none⟩) n n) (w.alloc (.cells ((List.replicate n (0 : Int)).map (Value.int .i64)).toArray 3)) := by
  obtain ⟨i, hi, hz, hsz, hby⟩ := info_parts info3
  have hr := run_make (P := Try.prog) w 52 3 i _ Try.underlying52 hi hz .i64 .i64 n n (by omega) (Int.le_refl _) (by rw [hby]; omega) (by omega)
  rw [hr, hsz]
  have : madeCells (Value.int IntKind.i64 0).cells ((n : Int).toNat * 1) = ((List.replicate n (0 : Int)).map (Value.int .i64)).toArray := by
    have h2 := toList_madeCells_one (.int .i64 0) n
    have e : (Value.int IntKind.i64 0).cells = #[.int .i64 0] := rfl
    rw [e, Int.toNat_natCast, Nat.mul_one]
    apply Array.toList_inj.1
    rw [h2]; simp
  rw [this]; rfl
end Go.Proofs.Qxb6617343a
