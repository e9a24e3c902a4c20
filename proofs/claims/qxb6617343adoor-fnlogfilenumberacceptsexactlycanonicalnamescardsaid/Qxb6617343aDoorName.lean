import Derived.Test.Qxb6617343aDoorRows
import Derived.Test.Qxb6617343aDoorShelf1
import Derived.Lib.Walk
import Derived.Lib.AppendIntMem
import Derived.WalkKit
import Derived.ProofKit
import Derived.BigCall
import Derived.BigGuard
namespace Go.Proofs.Qxb6617343aDoor
open Go.Shelf Go.RowKit Go.Sort Go.Lib

/-- the table's name, off the row -/
def powName : String := Rows.fnLogFileNameAppendsLastDigitRow.named.headD ""

/-- internal/strconv.FormatUint at base 10 -/
theorem fmt16_small (u : Nat) (hu : u < 100) (w : World) :
    Calls Tryd.prog 16 #[.int .u64 u, .int .i64 10] w fun e w' => e = .returned (.string ⟨(Lib.decDigits u).toArray⟩) ∧ w' = w := by
  go_enter Tryd.func16, Tryd.ntmps16
  go_wp2_with (go_at_call 20; refine (Any.internal_strconv_small Tryd.lays283 u hu _).mono ?_; rintro e w' ⟨rfl, rfl⟩)
  go_ret
  exact ⟨rfl, rfl⟩

set_option maxHeartbeats 6400000 in
set_option maxRecDepth 100000 in
theorem fmt16_great (u : Nat) (hu : 100 ≤ u) (hu64 : u < 18446744073709551616) (w : World) (htab : Lib.TabIs Tryd.prog w powName .u64 Lib.pow10Tab) :
    Calls Tryd.prog 16 #[.int .u64 u, .int .i64 10] w fun e w' => e = .returned (.string ⟨(Lib.decDigits u).toArray⟩) ∧ Below w.heap.size w w' := by
  have hu1 : 1 ≤ u := by omega
  have hnd20 : Lib.nDigits u ≤ 20 := by have := Lib.numDigits_eq u hu1 hu64; split at this <;> omega
  have hal : Tryd.prog.arrayLen 38 = 24 := by simp [Program.arrayLen, Tryd.underlying38]
  have hsl : ∀ W, (Instr.sliceAt 38 (.pointer (some ⟨w.heap.size, 0, none⟩)) none (some (.int .i64 (Lib.nDigits u : Int))) none).run Tryd.prog W = .ok (.slice (some ⟨w.heap.size, 0, none⟩) (Lib.nDigits u) 24) W := fun W => by
    rw [run_sliceAt_array_h W 38 ⟨w.heap.size, 0, none⟩ (by simp [Program.arrayLen, Program.elem, Tryd.underlying38]) .i64 (Lib.nDigits u : Int) (by omega) (by rw [hal]; omega)]
    go_simp
  have hH0 := Lib.holds_zero0 w 38 (Lib.nDigits u) (by omega)
  have hfmt := Any.internal_strconv_formatBase10 Tryd.lays285 w.heap.size 0 24 u (Array.replicate (Lib.nDigits u) 0) (w.alloc (.cells Lib.zeros24 38)) hH0 (by rw [Array.size_replicate]; exact Lib.lt_pow_nDigits u) hu64 (by rw [Array.size_replicate]; omega)
  rw [Array.size_replicate] at hfmt
  have HF : Hid (Calls Tryd.prog 22 #[.slice (some ⟨w.heap.size, 0, none⟩) (Lib.nDigits u) 24, .int .u64 u] (w.alloc (.cells Lib.zeros24 38)) fun e w' =>
      e = .returned (.tuple #[]) ∧ ∃ (n v' : Nat) (dk : Array UInt8), w' = (putRow (fun (b : UInt8) => Value.int .u8 (b.toNat : Int)) (w.alloc (.cells Lib.zeros24 38)) w.heap.size 0 dk).drewN n ∧ FmtInv (Lib.nDigits u) u 0 v' dk) := hfmt
  have HH0 := Lib.hid hH0
  clear hH0 hfmt hal
  go_enter Tryd.func16, Tryd.ntmps16
  go_wp2_with (go_at_call 21; refine (Any.internal_strconv_numDigits Tryd.laysM284 u hu1 hu64 _ (Lib.tabIs_alloc htab _)).mono ?_; rintro e w' ⟨rfl, rfl⟩)
  refine HF.out.mono ?_
  rintro e w' ⟨rfl, k, v', dk, rfl, hF⟩
  have hcv : (convert 28 9 (.slice (some ⟨w.heap.size, 0, none⟩) (Lib.nDigits u) 24)).run Tryd.prog ((putRow (fun (b : UInt8) => Value.int .u8 (b.toNat : Int)) (w.alloc (.cells Lib.zeros24 38)) w.heap.size 0 dk).drewN k) = .ok (.string ⟨(Lib.decDigits u).toArray⟩) ((putRow (fun (b : UInt8) => Value.int .u8 (b.toNat : Int)) (w.alloc (.cells Lib.zeros24 38)) w.heap.size 0 dk).drewN k) := by
    have h := run_convert_bytes_back (P := Tryd.prog) ((putRow (fun (b : UInt8) => Value.int .u8 (b.toNat : Int)) (w.alloc (.cells Lib.zeros24 38)) w.heap.size 0 dk).drewN k) 28 9 5 ⟨w.heap.size, 0, none⟩ 24 (Lib.decDigits u) Tryd.underlying28 Tryd.underlying5 Tryd.underlying9 (fun j hj => by
      rw [Lib.row_is_numeral hF j hj, Lib.add_plain, World.cell?_drewN]
      exact cell?_putRow (fun (b : UInt8) => Value.int .u8 (b.toNat : Int)) _ w.heap.size 0 _ dk HH0.out (by rw [hF.size, Array.size_replicate]) j (by rw [hF.size]; rw [Lib.decDigits_length] at hj; exact hj))
    rw [Lib.decDigits_length] at h
    exact h
  obtain ⟨os, eo⟩ := Lib.fin_at w (.cells Lib.zeros24 38) dk k 0
  have HB : Hid (Below w.heap.size w ((putRow (fun (b : UInt8) => Value.int .u8 (b.toNat : Int)) (w.alloc (.cells Lib.zeros24 38)) w.heap.size 0 dk).drewN k)) := by
    show Below _ _ _
    rw [eo]; exact Lib.below_grow _ _ (Nat.le_refl _) _ _
  clear eo HF HH0
  generalize (putRow (fun (b : UInt8) => Value.int .u8 (b.toNat : Int)) (w.alloc (.cells Lib.zeros24 38)) w.heap.size 0 dk).drewN k = w2 at hcv HB ⊢
  go_wp2
  go_ret
  exact ⟨rfl, HB.out⟩

theorem fmt16 (u : Nat) (hu64 : u < 18446744073709551616) (w : World) (htab : Lib.TabIs Tryd.prog w powName .u64 Lib.pow10Tab) :
    Calls Tryd.prog 16 #[.int .u64 u, .int .i64 10] w fun e w' => e = .returned (.string ⟨(Lib.decDigits u).toArray⟩) ∧ Below w.heap.size w w' := by
  by_cases h : u < 100
  · exact (fmt16_small u h w).mono fun e w' ⟨he, hw⟩ => ⟨he, by subst hw; exact Below.refl _ _⟩
  · exact fmt16_great u (by omega) hu64 w htab

theorem fmt13 (u : Nat) (hu64 : u < 18446744073709551616) (w : World) (htab : Lib.TabIs Tryd.prog w powName .u64 Lib.pow10Tab) :
    Calls Tryd.prog 13 #[.int .u64 u, .int .i64 10] w fun e w' => e = .returned (.string ⟨(Lib.decDigits u).toArray⟩) ∧ Below w.heap.size w w' := by
  go_enter Tryd.func13, Tryd.ntmps13
  go_wp2_with (go_at_call 16; refine (fmt16 u hu64 _ htab).mono ?_; rintro e w' ⟨rfl, hb⟩)
  go_ret
  exact ⟨rfl, hb⟩
end Go.Proofs.Qxb6617343aDoor
