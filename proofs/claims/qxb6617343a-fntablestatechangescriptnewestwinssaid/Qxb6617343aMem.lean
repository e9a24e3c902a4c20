import Derived.Test.Qxb6617343aRows
import Derived.Test.Qxb6617343aCmp
import Derived.WalkKit
import Derived.ProofKit
import Derived.BigQuiet
import Derived.Laws.OwnMore
import Derived.Laws.Cover3
namespace Go.Proofs.Qxb6617343a
open Go.RowKit

/-- the bytes bs lie at address a (nothing is said of the address where there are none) -/
def BAt (w : World) (a : Option Addr) (bs : List UInt8) : Prop :=
  bs.length ≤ 1048576 ∧ (0 < bs.length → ∃ b off, a = some ⟨b, off, none⟩ ∧ ∀ (i : Nat) (h : i < bs.length), w.cell? ⟨b, off + i, none⟩ = some (.int .u8 (bs[i].toNat : Int)))

theorem BAt.nil (w : World) (a : Option Addr) : BAt w a [] := ⟨by simp, fun h => absurd h (by simp)⟩

/-- cells that hold bytes stay as they are -/
def Keeps (w w' : World) : Prop := ∀ (a : Addr) (u : Int), w.cell? a = some (.int .u8 u) → w'.cell? a = some (.int .u8 u)
theorem Keeps.refl (w : World) : Keeps w w := fun _ _ h => h
theorem Keeps.trans {a b c : World} (h : Keeps a b) (g : Keeps b c) : Keeps a c := fun x u hx => g x u (h x u hx)
theorem Keeps.drewN {a b : World} (h : Keeps a b) (n : Nat) : Keeps a (b.drewN n) := h
theorem cell_lt {w : World} {p : Addr} {v : Value} (h : w.cell? p = some v) : p.block < w.heap.size := by
  by_cases hb : p.block < w.heap.size
  · exact hb
  · have : w.heap[p.block]? = none := by simp; omega
    simp [World.cell?, this] at h
theorem Keeps.of_below {w w' : World} (h : Below w.heap.size w w') : Keeps w w' := fun a u ha => by rw [h.cell (cell_lt ha)]; exact ha
theorem BAt.keep {w w' : World} {a : Option Addr} {bs : List UInt8} (h : BAt w a bs) (k : Keeps w w') : BAt w' a bs :=
  ⟨h.1, fun hp => by obtain ⟨b, off, e, hc⟩ := h.2 hp; exact ⟨b, off, e, fun i hi => k _ _ (hc i hi)⟩⟩
theorem BAt.drewN {w : World} {a : Option Addr} {bs : List UInt8} (h : BAt w a bs) (n : Nat) : BAt (w.drewN n) a bs := h

theorem ret_int {k : IntKind} {a b : Int} (h : a = b) : Ending.returned (.int k a) = .returned (.int k b) := by rw [h]
theorem ret_bool {a b : Bool} (h : a = b) : Ending.returned (.bool a) = .returned (.bool b) := by rw [h]

set_option maxHeartbeats 2000000 in
theorem zzcmp (a1 a2 : Option Addr) (c1 c2 : Nat) (x y : List UInt8) (w : World) (h1 : BAt w a1 x) (h2 : BAt w a2 y) :
    Calls Try.prog 22 #[.slice a1 x.length c1, .slice a2 y.length c2] w fun e w' => e = .returned (.int .i64 (cmpL x y)) ∧ ∃ n, w' = w.drewN n := by
  have hx := h1.1
  have hy := h2.1
  have H1 : Hid (BAt w a1 x) := h1
  have H2 : Hid (BAt w a2 y) := h2
  clear h1 h2
  go_enter Try.func22, Try.ntmps22
  go_wp2
  go_loopw [5] (fun i wr => ∃ k n : Nat, k ≤ x.length ∧ k ≤ y.length ∧ i = .int .i64 k ∧ wr = w.drewN n ∧ cmpL x y = cmpL (x.drop k) (y.drop k)) (fun i _ => x.length - (intOf i).toNat)
  case atStart => exact ⟨0, 0, Nat.zero_le _, Nat.zero_le _, rfl, rfl, rfl⟩
  case round =>
    obtain ⟨k, n, hkx, hky, rfl, rfl, hc⟩ := hrel
    have HC : Hid (cmpL x y = cmpL (x.drop k) (y.drop k)) := hc
    clear hc
    by_cases hlx : k < x.length
    · by_cases hly : k < y.length
      · obtain ⟨b1, o1, rfl, hc1⟩ := H1.out.2 (by omega)
        obtain ⟨b2, o2, rfl, hc2⟩ := H2.out.2 (by omega)
        have hk1 := hc1 k hlx
        have hk2 := hc2 k hly
        clear hc1 hc2
        have HS : Hid (cmpL x y = if (x[k].toNat : Int) < (y[k].toNat : Int) then -1 else if (y[k].toNat : Int) < (x[k].toNat : Int) then 1 else cmpL (x.drop (k + 1)) (y.drop (k + 1))) := by
          show _ = _
          rw [HC.out, cmpL_step x y k hlx hly]
        by_cases ha : (x[k].toNat : Int) < (y[k].toNat : Int)
        · go_wp2
          go_quiet (fail)
          go_wp2
          go_ret
          exact ⟨ret_int (by rw [HS.out, if_pos ha]), n + nq, by simp only [World.drewN_drewN]⟩
        · by_cases hb : (y[k].toNat : Int) < (x[k].toNat : Int)
          · go_wp2
            go_quiet (fail)
            go_wp2
            go_quiet (fail)
            go_wp2
            go_ret
            exact ⟨ret_int (by rw [HS.out, if_neg (by omega), if_pos (by omega)]), _, by simp only [World.drewN_drewN]; rfl⟩
          · go_wp2
            go_quiet (fail)
            go_wp2
            go_quiet (fail)
            go_wp2
            go_roundw
            case rel => exact ⟨k + 1, _, by omega, by omega, by go_num, rfl, by rw [HS.out, if_neg (by omega), if_neg (by omega)]⟩
            case measure => simp [intOf]; omega
      · have HE : Hid (cmpL x y = if x.length < y.length then -1 else if y.length < x.length then 1 else 0) := by
          show _ = _
          rw [HC.out, cmpL_end x y k hkx hky (Or.inr (by omega))]
        have hgt : y.length < x.length := by omega
        go_wp2
        go_ret
        exact ⟨ret_int (by rw [HE.out, if_neg (by omega), if_pos hgt]), n, rfl⟩
    · have HE : Hid (cmpL x y = if x.length < y.length then -1 else if y.length < x.length then 1 else 0) := by
        show _ = _
        rw [HC.out, cmpL_end x y k hkx hky (Or.inl (by omega))]
      by_cases hl : x.length < y.length
      · go_wp2
        go_ret
        exact ⟨ret_int (by rw [HE.out, if_pos hl]), n, rfl⟩
      · have hle : y.length ≤ x.length := by omega
        go_wp2
        go_ret
        exact ⟨ret_int (by rw [HE.out, if_neg hl, if_neg (by omega)]), n, rfl⟩
end Go.Proofs.Qxb6617343a
