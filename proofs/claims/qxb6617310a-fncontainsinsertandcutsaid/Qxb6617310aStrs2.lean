import Derived.Test.Qxb6617310aStrs
import Derived.Test.Qxb6617310aGen
namespace Go.Proofs.Qxb6617310a
open Go.RowKit

def zeroS (n : Nat) : Array Value := (strs (List.replicate n ByteArray.empty)).toArray
theorem info9 : (Try.prog.info? 9).map (fun i => (i.zero, i.size, i.bytes)) = some (some (.string ByteArray.empty), 1, 16) := by kernel_rfl
theorem size9 : (Try.prog.info? 9).map (·.size) = some 1 := by kernel_rfl
theorem makeS (n : Nat) (h : n ≤ 2097152) (w : World) :
    (Instr.makeSlice 22 (.int .i64 (n : Int)) (.int .i64 (n : Int))).run Try.prog w = .ok (.slice (some ⟨w.heap.size, 0, none⟩) n n) (w.alloc (.cells (zeroS n) 9)) := by
  obtain ⟨i, hi, hz, hsz, hby⟩ := info_parts info9
  have hr := run_make (P := Try.prog) w 22 9 i _ Try.underlying22 hi hz .i64 .i64 n n (by omega) (Int.le_refl _) (by rw [hby]; omega) (by omega)
  rw [hr, hsz]
  have : madeCells (Value.string ByteArray.empty).cells ((n : Int).toNat * 1) = zeroS n := by
    have h2 := toList_madeCells_one (.string ByteArray.empty) n
    have e : (Value.string ByteArray.empty).cells = #[.string ByteArray.empty] := rfl
    rw [e, Int.toNat_natCast, Nat.mul_one]
    apply Array.toList_inj.1
    rw [h2]; simp [zeroS, strs]
  rw [this]; rfl

theorem cell_lt {w : World} {b o : Nat} {v : Value} (h : w.cell? ⟨b, o, none⟩ = some v) : b < w.heap.size := by
  by_cases hb : b < w.heap.size
  · exact hb
  · have : w.heap[b]? = none := by simp; omega
    simp [World.cell?, this] at h

/-- 'copy(zzc, list)', zzc new and as long as list -/
theorem copyS {w wr : World} {g : Nat} {xs : List Value} (hr : Row w wr g 9 xs) (x : Addr) (L : List ByteArray) (n c : Nat) (ty : TypeId) (hn : L.length = n) (hx : xs.length = n) (hs : IsS wr (some x) L) :
    (Builtin.copy_ #[22, 22] ty #[.slice (some ⟨g, 0, none⟩) n n, .slice (some x) n c]).run Try.prog wr = .ok (.int .i64 (n : Int)) (wr.setRow g (strs L).toArray) := by
  have h := run_copy_row (P := Try.prog) wr 22 22 ty 9 g 0 n n x n c xs.toArray 9 (strs L) Try.underlying22 size9 hr.block (by rw [strs_len, hn]; exact (Nat.min_self n).symm)
    (fun j v hj => by
      have hjl : j < L.length := by
        have := (List.getElem?_eq_some_iff.1 hj).1
        rwa [strs_len] at this
      obtain ⟨b, off, e, hc⟩ := hs (by omega)
      rw [Option.some.inj e, WideShapes.add_plain, hc j hjl, ← hj, strs_at L j hjl])
    (by rw [strs_len]; simp; omega) (by intro v hv; simp [strs] at hv; obtain ⟨s, _, rfl⟩ := hv; rfl)
  rw [h]
  have e1 : (xs.toArray.toList.take 0 ++ strs L ++ xs.toArray.toList.drop (0 + (strs L).length)) = strs L := by
    rw [strs_len]; simp; omega
  rw [e1, strs_len, hn]; rfl

theorem IsS_row {w wr : World} {g : Nat} {L : List ByteArray} (h : Row w wr g 9 (strs L)) : IsS wr (some ⟨g, 0, none⟩) L :=
  fun _ => ⟨g, 0, rfl, fun i hi => by rw [Nat.zero_add, h.cell, strs_at L i hi]⟩
theorem IsS_take {w wr : World} {g : Nat} {L : List ByteArray} (h : Row w wr g 9 (strs L)) (k : Nat) : IsS wr (some ⟨g, 0, none⟩) (L.take k) :=
  fun _ => ⟨g, 0, rfl, fun i hi => by
    have hi' : i < L.length := by simp at hi; omega
    rw [Nat.zero_add, h.cell, strs_at L i hi', List.getElem_take]⟩
theorem IsS_drop {w wr : World} {g : Nat} {L : List ByteArray} (h : Row w wr g 9 (strs L)) (k : Nat) : IsS wr (some ⟨g, k, none⟩) (L.drop k) :=
  fun _ => ⟨g, k, rfl, fun i hi => by
    have hi' : k + i < L.length := by simp at hi; omega
    rw [h.cell, strs_at L _ hi', List.getElem_drop]⟩
theorem IsS_none (w : World) (a : Option Addr) : IsS w a [] := fun h => absurd h (by simp)

theorem hasL_cut (L : List ByteArray) (k : Nat) (t : ByteArray) : hasL L t = (hasL (L.take k) t || hasL (L.drop k) t) := by
  rw [Bool.eq_iff_iff, Bool.or_eq_true, hasL_iff, hasL_iff, hasL_iff]; exact Gen.mem_cut L k t
theorem hasL_ins (L : List ByteArray) (k : Nat) (s t : ByteArray) : hasL (Gen.ins L k s) t = (hasL L t || decide (t = s)) := by
  rw [Bool.eq_iff_iff, Bool.or_eq_true, hasL_iff, hasL_iff, decide_eq_true_eq]; exact Gen.mem_ins L k s t
theorem hasL_insS (L : List ByteArray) (k : Nat) (s : ByteArray) : hasL (Gen.ins L k s) s = true := by
  rw [hasL_ins]; simp
end Go.Proofs.Qxb6617310a
