import Derived.Test.Qxb6617343aSearch
namespace Go.Proofs.Qxb6617343a
open Go.RowKit

/-- a row: key, value, transaction -/
structure RW where
  k : SL
  v : SL
  t : Int
def rowC (r : RW) : List Value := [.slice r.k.a r.k.n r.k.c, .slice r.v.a r.v.n r.v.c, .int .u64 r.t]
def rowsC (R : List RW) : List Value := R.flatMap rowC
theorem rowsC_len (R : List RW) : (rowsC R).length = R.length * 3 := by
  unfold rowsC; induction R with
  | nil => rfl
  | cons r R ih => simp [rowC] at *; omega
theorem rowsC_at : ∀ (R : List RW) (i : Nat) (h : i < R.length) (j : Nat), j < 3 → (rowsC R)[i * 3 + j]? = (rowC R[i])[j]?
  | [], i, h, _, _ => by simp at h
  | r :: R, 0, h, j, hj => by
    show (rowC r ++ rowsC R)[0 * 3 + j]? = (rowC r)[j]?
    rw [List.getElem?_append_left (by simp [rowC]; omega)]; simp
  | r :: R, i + 1, h, j, hj => by
    have e : (r :: R)[i + 1] = R[i]'(by simpa using h) := rfl
    rw [e, ← rowsC_at R i (by simpa using h) j hj]
    show (rowC r ++ rowsC R)[(i + 1) * 3 + j]? = _
    rw [List.getElem?_append_right (by simp [rowC]; omega)]
    congr 1
    simp [rowC]; omega

/-- the rows R lie in block g -/
def RAt (w : World) (g : Nat) (R : List RW) : Prop := w.heap[g]? = some (.cells (rowsC R).toArray 36 (0, 0))
theorem RAt.cell {w : World} {g : Nat} {R : List RW} (h : RAt w g R) (i : Nat) (hi : i < R.length) (j : Nat) (hj : j < 3) : w.cell? ⟨g, i * 3 + j, none⟩ = (rowC R[i])[j]? := by
  rw [cell_of_row w g _ _ 36 (0, 0) h]; simpa using rowsC_at R i hi j hj
theorem RAt.c0 {w : World} {g : Nat} {R : List RW} (h : RAt w g R) (i : Nat) (hi : i < R.length) : w.cell? ⟨g, i * 3, none⟩ = some (.slice R[i].k.a R[i].k.n R[i].k.c) := h.cell i hi 0 (by omega)
theorem RAt.c1 {w : World} {g : Nat} {R : List RW} (h : RAt w g R) (i : Nat) (hi : i < R.length) : w.cell? ⟨g, i * 3 + 1, none⟩ = some (.slice R[i].v.a R[i].v.n R[i].v.c) := h.cell i hi 1 (by omega)
theorem RAt.c2 {w : World} {g : Nat} {R : List RW} (h : RAt w g R) (i : Nat) (hi : i < R.length) : w.cell? ⟨g, i * 3 + 2, none⟩ = some (.int .u64 R[i].t) := h.cell i hi 2 (by omega)

theorem RAt.lt {w : World} {g : Nat} {R : List RW} (h : RAt w g R) : g < w.heap.size := (Array.getElem?_eq_some_iff.1 h).1
theorem RAt.below {w w' : World} {g : Nat} {R : List RW} (h : RAt w g R) (hb : Below w.heap.size w w') : RAt w' g R := by
  show w'.heap[g]? = _
  rw [hb.block g h.lt]; exact h
theorem none_idx (K : List OB) (y : List UInt8) (h : ∀ (x : Nat) (h : x < K.length), byL K[x] ≠ y) : idxL (K.map byL) y = -1 :=
  idxL_none _ _ _ fun z hz => by
    obtain ⟨o, ho, rfl⟩ := List.mem_map.1 hz
    obtain ⟨j, hj, rfl⟩ := List.getElem_of_mem ho
    exact h j hj
/-- keys in strictly ascending order -/
def Asc (K : List OB) : Prop := ∀ (i : Nat) (h : i + 1 < K.length), cmpL (byL (K[i]'(by omega))) (byL K[i + 1]) < 0
theorem Asc.lt {K : List OB} (h : Asc K) : ∀ (d i : Nat) (hi : i + d + 1 < K.length), cmpL (byL (K[i]'(by omega))) (byL K[i + d + 1]) < 0
  | 0, i, hi => h i hi
  | d + 1, i, hi => cmpL_trans _ _ _ (Asc.lt h d i (by omega)) (h (i + d + 1) hi)
theorem Asc.lt' {K : List OB} (h : Asc K) (i j : Nat) (hij : i < j) (hj : j < K.length) : cmpL (byL (K[i]'(by omega))) (byL K[j]) < 0 := by
  have := h.lt (j - i - 1) i (by omega)
  have e : i + (j - i - 1) + 1 = j := by omega
  simpa only [e] using this

/-- the search's answer -/
def Z24 (K : List OB) (y : List UInt8) (w : World) (e : Ending) (w' : World) : Prop :=
  ∃ (i : Nat) (b : Bool), e = .returned (.tuple #[.int .i64 (i : Int), .bool b]) ∧ Below w.heap.size w w' ∧ ((b = true ∧ i < K.length ∧ idxL (K.map byL) y = i) ∨ (b = false ∧ idxL (K.map byL) y = -1))

theorem found_idx {K : List OB} (h : Asc K) (y : List UInt8) (i : Nat) (hi : i < K.length) (e : byL K[i] = y) : idxL (K.map byL) y = i := by
  rw [idxL_at (K.map byL) y 0 i (by simpa using hi) (by simpa using e) (fun j hj hji => by
    have := h.lt' j i hji hi
    intro e'
    have e'' : byL (K[j]'(by simpa using hj)) = y := by simpa using e'
    rw [e'', ← e, cmpL_self] at this
    omega)]
  simp

set_option maxHeartbeats 2000000 in
theorem search24 (g cap : Nat) (R : List RW) (K : List OB) (t : SL) (p : OB) (w : World) (hn : R.length ≤ 4096) (hl : R.length = K.length) (hR : RAt w g R) (hK : ∀ (i : Nat) (h : i < R.length) (h' : i < K.length), IsV w R[i].k K[i]) (hp : IsV w t p) (hA : Asc K) :
    Calls Try.prog 24 #[.slice (some ⟨g, 0, none⟩) R.length cap, .slice t.a t.n t.c, .func (.func 25) #[] #[]] w fun e w' => Z24 K (byL p) w e w' := by
  have HR : Hid (RAt w g R) := hR
  have HK : Hid (∀ (i : Nat) (h : i < R.length) (h' : i < K.length), IsV w R[i].k K[i]) := hK
  have HP : Hid (IsV w t p) := hp
  have HE : Hid (R.length = K.length) := hl
  have HA : Hid (Asc K) := hA
  clear hR hK hp hl hA
  go_enter Try.func24, Try.ntmps24
  go_wp2
  go_loopw [9, 10, 11] (fun i j _ wr => ∃ lo hi : Nat, lo ≤ hi ∧ hi ≤ R.length ∧ i = .int .i64 lo ∧ j = .int .i64 hi ∧ Below w.heap.size w wr ∧ (∀ (x : Nat) (h : x < K.length), x < lo → cmpL (byL K[x]) (byL p) < 0) ∧ (∀ (x : Nat) (h : x < K.length), hi ≤ x → 0 ≤ cmpL (byL K[x]) (byL p))) (fun i j _ _ => ((intOf j) - (intOf i)).toNat)
  case atStart => exact ⟨0, R.length, Nat.zero_le _, Nat.le_refl _, rfl, rfl, Below.refl _ _, fun x _ h => absurd h (Nat.not_lt_zero _), fun x h h' => by rw [← HE.out] at h; omega⟩
  case round =>
    obtain ⟨lo, hi, hlh, hhn, rfl, rfl, hbel, hlow, hhigh⟩ := hrel
    have HLO : Hid (∀ (x : Nat) (h : x < K.length), x < lo → cmpL (byL K[x]) (byL p) < 0) := hlow
    have HHI : Hid (∀ (x : Nat) (h : x < K.length), hi ≤ x → 0 ≤ cmpL (byL K[x]) (byL p)) := hhigh
    have HB : Hid (Below w.heap.size w wr) := hbel
    clear hlow hhigh hbel
    have HRw : Hid (RAt wr g R) := HR.out.below HB.out
    have HKw : Hid (∀ (i : Nat) (h : i < R.length) (h' : i < K.length), IsV wr R[i].k K[i]) := fun i h h' => (HK.out i h h').keep (Keeps.of_below HB.out)
    have HPw : Hid (IsV wr t p) := HP.out.keep (Keeps.of_below HB.out)
    by_cases hlt : lo < hi
    · have hm : (lo + hi) / 2 < R.length := by omega
      have hmK : (lo + hi) / 2 < K.length := by rw [← HE.out]; exact hm
      have c0 := HRw.out.c0 _ hm
      have c1 := HRw.out.c1 _ hm
      have c2 := HRw.out.c2 _ hm
      have HV : Hid (IsV wr R[(lo + hi) / 2].k K[(lo + hi) / 2]) := HKw.out _ hm hmK
      obtain ⟨v, HC⟩ : ∃ v, Hid (cmpL (byL K[(lo + hi) / 2]) (byL p) = v) := ⟨cmpL (byL K[(lo + hi) / 2]) (byL p), show Hid (_ = _) from rfl⟩
      by_cases hv : v < 0
      · go_wp2_with (go_at_call 25; refine (closure25 _ _ _ _ _ _ _ _ HV HPw HC).mono ?_; rintro e w1 ⟨rfl, hb1⟩)
        go_roundw
        case rel => exact ⟨(lo + hi) / 2 + 1, hi, by omega, hhn, by go_num, rfl, HB.out.trans (hb1.mono HB.out.size), fun x h hx => by
            by_cases e : x = (lo + hi) / 2
            · subst e; rw [HC.out]; exact hv
            · exact cmpL_trans _ _ _ (HA.out.lt' x ((lo + hi) / 2) (by omega) hmK) (by rw [HC.out]; exact hv), HHI.out⟩
        case measure => simp [intOf]; omega
      · go_wp2_with (go_at_call 25; refine (closure25 _ _ _ _ _ _ _ _ HV HPw HC).mono ?_; rintro e w1 ⟨rfl, hb1⟩)
        go_roundw
        case rel => exact ⟨lo, (lo + hi) / 2, by omega, by omega, rfl, by go_num, HB.out.trans (hb1.mono HB.out.size), HLO.out, fun x h hx => by
            by_cases e : x = (lo + hi) / 2
            · subst e; rw [HC.out]; omega
            · have h1 := HA.out.lt' ((lo + hi) / 2) x (by omega) h
              rcases cmpL_range (byL K[x]) (byL p) with h2 | h2 | h2
              · have h3 := cmpL_trans _ _ _ h1 (by rw [h2]; omega : cmpL (byL K[x]) (byL p) < 0)
                rw [HC.out] at h3; omega
              · omega
              · omega⟩
        case measure => simp [intOf]; omega
    · have hle : lo = hi := by omega
      subst hle
      by_cases hend : lo < R.length
      · have hmK : lo < K.length := by rw [← HE.out]; exact hend
        have c0 := HRw.out.c0 _ hend
        have c1 := HRw.out.c1 _ hend
        have c2 := HRw.out.c2 _ hend
        have HV : Hid (IsV wr R[lo].k K[lo]) := HKw.out _ hend hmK
        obtain ⟨v, HC⟩ : ∃ v, Hid (cmpL (byL K[lo]) (byL p) = v) := ⟨cmpL (byL K[lo]) (byL p), show Hid (_ = _) from rfl⟩
        by_cases hv : v = 0
        · have hq : (v == 0) = true := by simpa using hv
          have HF : Hid (idxL (K.map byL) (byL p) = lo) := found_idx HA.out _ lo hmK ((cmpL_eq _ _).1 (by rw [HC.out]; exact hv))
          clear hv
          go_wp2_with (go_at_call 25; refine (closure25 _ _ _ _ _ _ _ _ HV HPw HC).mono ?_; rintro e w1 ⟨rfl, hb1⟩)
          go_ret2
          exact ⟨lo, true, rfl, HB.out.trans (hb1.mono HB.out.size), .inl ⟨rfl, hmK, HF.out⟩⟩
        · have hq : (v == 0) = false := by simpa using hv
          have HF : Hid (idxL (K.map byL) (byL p) = -1) := none_idx _ _ fun x h => by
            by_cases h1 : x < lo
            · have := HLO.out x h h1
              intro e; rw [e, cmpL_self] at this; omega
            · by_cases h2 : x = lo
              · subst h2; intro e; rw [e, cmpL_self] at HC; exact hv HC.out.symm
              · have h3 := HA.out.lt' lo x (by omega) h
                have h4 := HHI.out lo hmK (Nat.le_refl _)
                intro e; rw [e] at h3; omega
          clear hv
          go_wp2_with (go_at_call 25; refine (closure25 _ _ _ _ _ _ _ _ HV HPw HC).mono ?_; rintro e w1 ⟨rfl, hb1⟩)
          go_ret2
          exact ⟨lo, false, rfl, HB.out.trans (hb1.mono HB.out.size), .inr ⟨rfl, HF.out⟩⟩
      · have HF : Hid (idxL (K.map byL) (byL p) = -1) := none_idx _ _ fun x h => by
          have := HLO.out x h (by rw [← HE.out] at h; omega)
          intro e; rw [e, cmpL_self] at this; omega
        go_wp2
        go_ret2
        exact ⟨lo, false, rfl, HB.out, .inr ⟨rfl, HF.out⟩⟩
end Go.Proofs.Qxb6617343a
