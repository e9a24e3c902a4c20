import Derived.Test.Qxb6617343aChange
namespace Go.Proofs.Qxb6617343a
open Go.RowKit

def rowF (q : VR) (r : RW) : RW := if q.d then { r with t := 0 } else { k := r.k, v := q.v, t := q.t }
def stepR (idx : Int) (q : VR) (R : List RW) : List RW := if idx < 0 then R else R.modify idx.toNat (rowF q)
def stepD (idx : Int) (q : VR) (d : Bool) : Bool := if idx < 0 then d else (d || q.d)
def stepM (idx : Int) (k : List UInt8) (q : VR) (M : AM) : AM := if idx < 0 then upd M k q else M

theorem modify_set {α : Type} (R : List α) (i : Nat) (h : i < R.length) (f : α → α) : R.modify i f = R.set i (f R[i]) := by
  apply List.ext_getElem?
  intro j
  by_cases e : i = j
  · subst e; simp [h]
  · simp [e]

theorem idx_range : ∀ (L : List (List UInt8)) (y : List UInt8) (i : Int), 0 ≤ i → (idxL L y i = -1 ∨ ∃ k : Nat, k < L.length ∧ idxL L y i = i + k)
  | [], _, _, _ => Or.inl rfl
  | x :: r, y, i, hi => by
    unfold idxL
    by_cases e : x = y
    · rw [if_pos e]; exact Or.inr ⟨0, by simp, by simp⟩
    · rw [if_neg e]
      rcases idx_range r y (i + 1) (by omega) with h | ⟨k, hk, h⟩
      · exact Or.inl h
      · exact Or.inr ⟨k + 1, by simpa using hk, by rw [h]; simp; omega⟩

theorem change23 (B bt gr : Nat) (mv : Option Nat) (R : List RW) (d : Bool) (M : AM) (K : List OB) (t : SL) (p : OB) (q : VR) (w : World) (hB : B ≤ w.heap.size) (hT : TS B w bt gr R d mv M) (hn : R.length ≤ 4096) (hl : R.length = K.length)
    (hK : ∀ (i : Nat) (h : i < R.length) (h' : i < K.length), IsV w R[i].k K[i]) (hp : IsV w t p) (hA : Asc K) :
    Calls Try.prog 23 #[.pointer (some ⟨bt, 0, none⟩), .slice t.a t.n t.c, .agg #[.slice q.v.a q.v.n q.v.c, .int .u64 q.t, .bool q.d]] w
      fun e w' => Z23 B bt gr (stepR (idxL (K.map byL) (byL p)) q R) (stepD (idxL (K.map byL) (byL p)) q d) (stepM (idxL (K.map byL) (byL p)) (byL p) q M) w e w' := by
  rcases idx_range (K.map byL) (byL p) 0 (Int.le_refl _) with h | ⟨k, hk, h⟩
  · rw [h]
    simp only [stepR, stepD, stepM, show ((-1 : Int) < 0) = True from by simp, if_true]
    cases mv with
    | none => exact change_nil B bt gr R d M K t p q w hB hT hn hl hK hp hA h
    | some bm => exact change_map B bt gr bm R d M K t p q w hB hT hn hl hK hp hA h
  · have hkr : k < R.length := by rw [hl]; simpa using hk
    have h' : idxL (K.map byL) (byL p) = (k : Int) := by rw [h]; simp
    rw [h']
    have hng : ¬ ((k : Int) < 0) := by omega
    simp only [stepR, stepD, stepM, hng, if_false, Int.toNat_natCast]
    rw [modify_set R k hkr]
    unfold rowF
    cases hd : q.d with
    | true =>
      have := change_del B bt gr mv R d M K t p q w hB hT hn hl hK hp hA k hkr h' hd
      rw [hd] at this
      simpa using this
    | false =>
      have := change_put B bt gr mv R d M K t p q w hB hT hn hl hK hp hA k hkr h' hd
      rw [hd] at this
      simpa using this

theorem change12 (B bt gr : Nat) (mv : Option Nat) (R : List RW) (d : Bool) (M : AM) (K : List OB) (t : SL) (p : OB) (q : VR) (w : World) (hB : B ≤ w.heap.size) (hT : TS B w bt gr R d mv M) (hn : R.length ≤ 4096) (hl : R.length = K.length)
    (hK : ∀ (i : Nat) (h : i < R.length) (h' : i < K.length), IsV w R[i].k K[i]) (hp : IsV w t p) (hA : Asc K) :
    Calls Try.prog 12 #[.pointer (some ⟨bt, 0, none⟩), .slice t.a t.n t.c, .agg #[.slice q.v.a q.v.n q.v.c, .int .u64 q.t, .bool q.d]] w
      fun e w' => Z23 B bt gr (stepR (idxL (K.map byL) (byL p)) q R) (stepD (idxL (K.map byL) (byL p)) q d) (stepM (idxL (K.map byL) (byL p)) (byL p) q M) w e w' := by
  have hb1 : Below w.heap.size w (w.alloc (.cells #[.slice q.v.a q.v.n q.v.c, .int .u64 q.t, .bool q.d] 39)) := (Below.refl _ _).alloc (Nat.le_refl _) _
  have h23 := change23 B bt gr mv R d M K t p q (w.alloc (.cells #[.slice q.v.a q.v.n q.v.c, .int .u64 q.t, .bool q.d] 39)) (Nat.le_trans hB hb1.size) (hT.below hb1) hn hl (fun i h h' => (hK i h h').keep (Keeps.of_below hb1)) (hp.keep (Keeps.of_below hb1)) hA
  generalize stepR (idxL (K.map byL) (byL p)) q R = R' at h23 ⊢
  generalize stepD (idxL (K.map byL) (byL p)) q d = d' at h23 ⊢
  generalize stepM (idxL (K.map byL) (byL p)) (byL p) q M = M' at h23 ⊢
  have HS : Hid (Calls Try.prog 23 #[.pointer (some ⟨bt, 0, none⟩), .slice t.a t.n t.c, .agg #[.slice q.v.a q.v.n q.v.c, .int .u64 q.t, .bool q.d]] (w.alloc (.cells #[.slice q.v.a q.v.n q.v.c, .int .u64 q.t, .bool q.d] 39)) fun e w' => Z23 B bt gr R' d' M' (w.alloc (.cells #[.slice q.v.a q.v.n q.v.c, .int .u64 q.t, .bool q.d] 39)) e w') := h23
  have HB1 : Hid (Below w.heap.size w (w.alloc (.cells #[.slice q.v.a q.v.n q.v.c, .int .u64 q.t, .bool q.d] 39))) := hb1
  clear h23 hT hK hp hA hl hb1
  go_enter Try.func12, Try.ntmps12
  go_wp2_with fail
  refine HS.out.mono ?_
  rintro e w2 ⟨rfl, hT2, hb2, hk2, hs2⟩
  clear HS
  go_wp2
  go_end0
  exact ⟨rfl, hT2, (HB1.out.mono hB).trans hb2, (Keeps.of_below HB1.out).trans hk2, Nat.le_trans HB1.out.size hs2⟩

theorem new11 (a : Option Addr) (n c : Nat) (d : Bool) (w : World) :
    Calls Try.prog 11 #[.slice a n c, .bool d, .slice none 0 0, .slice none 0 0] w fun e w' => e = .returned (.pointer (some ⟨w.heap.size, 0, none⟩)) ∧ w' = w.alloc (.cells #[.slice a n c, .bool d, .map none] 56) := by
  have hne : ∀ (u : World), (binOp .neq 24 (.slice none 0 0) (.slice none 0 0)).run Try.prog u = .ok (.bool false) u := fun u => run_neq_slice_nil u 24 9 none 0 0 Try.underlying24
  go_enter Try.func11, Try.ntmps11
  go_wp2
  go_ret
  exact ⟨rfl, rfl⟩

section
variable {B : Nat} {w : World} {bt gr : Nat} {R : List RW} {d : Bool} {mv : Option Nat} {M : AM}
theorem rows14 (h : TS B w bt gr R d mv M) : Calls Try.prog 14 #[.pointer (some ⟨bt, 0, none⟩)] w fun e w' => e = .returned (.slice (some ⟨gr, 0, none⟩) R.length R.length) ∧ w' = w := by
  have c := h.c0
  clear h
  go_enter Try.func14, Try.ntmps14
  go_wp2
  go_ret
  exact ⟨rfl, rfl⟩
theorem del16 (h : TS B w bt gr R d mv M) : Calls Try.prog 16 #[.pointer (some ⟨bt, 0, none⟩)] w fun e w' => e = .returned (.bool d) ∧ w' = w := by
  have c := h.c1
  clear h
  go_enter Try.func16, Try.ntmps16
  go_wp2
  go_ret
  exact ⟨rfl, rfl⟩
theorem nil18 (h : TS B w bt gr R d mv M) : Calls Try.prog 18 #[.pointer (some ⟨bt, 0, none⟩)] w fun e w' => e = .returned (.bool mv.isNone) ∧ w' = w := by
  have c := h.c2
  have hm := map_nil mv
  clear h
  go_enter Try.func18, Try.ntmps18
  go_wp2
  go_ret
  exact ⟨rfl, rfl⟩
end
end Go.Proofs.Qxb6617343a
