import Derived.Test.Qxb6617343aJoin
import Derived.Deep.Matrix
import Derived.Deep.Grids
namespace Go.Proofs.Qxb6617343a
open Go.RowKit
section
variable {H : Type} {enc : TypeId × Value → H} {W : World} {held : Bool}
def byteOf (z : Int) : UInt8 := UInt8.ofNat z.toNat
theorem byteOf_wf (z : Int) (h : (Lit.int .u8 z).wf = true) : ((byteOf z).toNat : Int) = z := by
  have h1 : 0 ≤ z ∧ z < 256 := by
    have h2 : IntKind.u8.min = 0 := rfl
    have h3 : IntKind.u8.max = 255 := rfl
    simp [Lit.wf, h2, h3] at h
    omega
  unfold byteOf
  have : (UInt8.ofNat z.toNat).toNat = z.toNat % 256 := by simp
  rw [this]
  omega
theorem openBB {fuel : Nat} {a0 : Option Addr} {len0 cap0 base : Nat} {x : DataW H × List MemPlace} (h : DataW.trod enc Try.prog W base (fun _ => true) held fuel 22 [.slice a0 len0 cap0] = some x) :
    ∃ (T : List SL) (K : List OB), T.length = len0 ∧ K.length = T.length ∧ OAt W a0 T ∧ (∀ (i : Nat) (h : i < T.length) (h' : i < K.length), RawV W T[i] K[i]) ∧ ∀ (i : Nat) (h : i < T.length), T[i].n ≤ maxLen := by
  rcases Deep.open_int_rows (k := .u8) Try.underlying22 Try.underlying26 Try.underlying5 (by kernel_rfl) (by kernel_rfl) h with ⟨hcs, _⟩ | ⟨a, len, cap, A, L, C, Z, hcs, _, hl, hm, _, hr⟩
  · simp at hcs
    obtain ⟨rfl, rfl, rfl⟩ := hcs
    exact ⟨[], [], rfl, rfl, ⟨by simp, fun h => absurd h (by simp)⟩, fun i h => absurd h (by simp), fun i h => absurd h (by simp)⟩
  · simp at hcs
    obtain ⟨rfl, rfl, rfl⟩ := hcs
    refine ⟨(List.range len0).map fun r => ⟨A r, L r, C r⟩, (List.range len0).map fun r => (A r).map fun _ => ((Z r).take (L r)).map byteOf, by simp, by simp, ⟨by simp; omega, fun hp => ?_⟩, fun i hi hi' => ?_, fun i hi => ?_⟩
    · have hpos : 0 < len0 := by simpa using hp
      obtain ⟨b, off, spot⟩ := a
      have hspot : spot = none := by simpa [Addr.add] using World.cell?_spot (hr 0 (by omega)).1
      subst hspot
      refine ⟨b, off, rfl, fun i hi => ?_⟩
      have hi' : i < len0 := by simpa using hi
      have h2 := (hr i (by omega)).1
      rw [WideShapes.add_plain] at h2
      rw [h2]; simp
    · have hi0 : i < len0 := by simpa using hi
      obtain ⟨_, h2, h3, h4, h5, h6, h7⟩ := hr i (by omega)
      simp only [List.getElem_map, List.getElem_range]
      cases hA : A i with
      | none =>
        have := h6 hA
        refine ⟨?_, by simp, fun hp => absurd hp (by simp [byL])⟩
        simp [byL]; omega
      | some a' =>
        obtain ⟨b, off, spot⟩ := a'
        refine ⟨by simp [byL, h4, h2], by simp, fun hp => ?_⟩
        have hp' : 0 < L i := by simp [byL, h4] at hp; omega
        have hc := (h7 _ hA).2
        have hspot : spot = none := by simpa [Addr.add] using World.cell?_spot (hc 0 (by omega))
        subst hspot
        refine ⟨b, off, rfl, fun c hcl => ?_⟩
        have hcl' : c < L i := by simp [byL, h4] at hcl; omega
        have h8 := hc c (by omega)
        rw [WideShapes.add_plain] at h8
        rw [h8]
        have hcz : c < (Z i).length := by omega
        have hw := byteOf_wf _ (h5 (Z i)[c] (List.getElem_mem hcz))
        simp [byL, hcz, hw]
    · have hi0 : i < len0 := by simpa using hi
      obtain ⟨_, h2, h3, _⟩ := hr i (by omega)
      simp; omega
end
end Go.Proofs.Qxb6617343a
