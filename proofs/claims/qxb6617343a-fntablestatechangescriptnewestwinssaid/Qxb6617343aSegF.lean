import Derived.Test.Qxb6617343aTail
namespace Go.Proofs.Qxb6617343a
open Go.RowKit
set_option maxRecDepth 100000

set_option maxHeartbeats 4000000 in
theorem s40 (X : Ctx) (w : World) (a : Act) (bt g h i : Nat) (Q : Exit → Act → World → Prop) (Kc : Act → World → Prop) (hH : Has a (base X [(20, .pointer (some ⟨bt, 0, none⟩)), (22, .slice (some ⟨h, 0, none⟩) X.m X.m), (25, .slice (some ⟨g, 0, none⟩) X.n X.n), (26, .int .i64 (i : Int))]))
    (hK : ∀ (a' : Act), Has a' (base X [(20, .pointer (some ⟨bt, 0, none⟩)), (22, .slice (some ⟨h, 0, none⟩) X.m X.m), (25, .slice (some ⟨g, 0, none⟩) X.n X.n), (26, .int .i64 (i : Int)), (27, .int .i64 (-1))]) → Kc a' w) :
    Code.wp Try.prog (nthC 0 (in4 Try.f4)) (Exit.then Kc Q) a w := by
  have HK : Hid (∀ (a' : Act), Has a' (base X [(20, .pointer (some ⟨bt, 0, none⟩)), (22, .slice (some ⟨h, 0, none⟩) X.m X.m), (25, .slice (some ⟨g, 0, none⟩) X.n X.n), (26, .int .i64 (i : Int)), (27, .int .i64 (-1))]) → Kc a' w) := hK
  obtain ⟨x, rfl, hx⟩ := hH.open
  simp only [base, List.forall_mem_cons, List.not_mem_nil, false_imp_iff, implies_true, and_true] at hx
  obtain ⟨e0, e1, e2, e3, e4, e5, e6, e7, e20, e22, e25, e26⟩ := hx
  unfold Fr
  simp only [e0, e1, e2, e3, e4, e5, e6, e7, e20, e22, e25, e26]
  clear e0 e1 e2 e3 e4 e5 e6 e7 e20 e22 e25 e26 hH hK
  conv => arg 2; whnf
  go_wp2_with fail
  refine HK.out _ ⟨rfl, rfl, ?_⟩
  simp only [base, List.forall_mem_cons, List.not_mem_nil, false_imp_iff, implies_true, and_true]
  exact ⟨rfl, rfl, rfl, rfl, rfl, rfl, rfl, rfl, rfl, rfl, rfl, rfl, rfl⟩

set_option maxHeartbeats 4000000 in
theorem s41 (X : Ctx) (w : World) (a : Act) (bt g h i : Nat) (Q : Exit → Act → World → Prop) (Kc : Act → World → Prop) (hH : Has a (base X [(20, .pointer (some ⟨bt, 0, none⟩)), (22, .slice (some ⟨h, 0, none⟩) X.m X.m), (25, .slice (some ⟨g, 0, none⟩) X.n X.n), (26, .int .i64 (i : Int)), (27, .int .i64 (-1))]))
    (hK : ∀ (a' : Act), Has a' (base X [(20, .pointer (some ⟨bt, 0, none⟩)), (22, .slice (some ⟨h, 0, none⟩) X.m X.m), (25, .slice (some ⟨g, 0, none⟩) X.n X.n), (26, .int .i64 (i : Int)), (27, .int .i64 (-1)), (28, .int .i64 (-1))]) → Kc a' w) :
    Code.wp Try.prog (nthC 1 (in4 Try.f4)) (Exit.then Kc Q) a w := by
  have HK : Hid (∀ (a' : Act), Has a' (base X [(20, .pointer (some ⟨bt, 0, none⟩)), (22, .slice (some ⟨h, 0, none⟩) X.m X.m), (25, .slice (some ⟨g, 0, none⟩) X.n X.n), (26, .int .i64 (i : Int)), (27, .int .i64 (-1)), (28, .int .i64 (-1))]) → Kc a' w) := hK
  obtain ⟨x, rfl, hx⟩ := hH.open
  simp only [base, List.forall_mem_cons, List.not_mem_nil, false_imp_iff, implies_true, and_true] at hx
  obtain ⟨e0, e1, e2, e3, e4, e5, e6, e7, e20, e22, e25, e26, e27⟩ := hx
  unfold Fr
  simp only [e0, e1, e2, e3, e4, e5, e6, e7, e20, e22, e25, e26, e27]
  clear e0 e1 e2 e3 e4 e5 e6 e7 e20 e22 e25 e26 e27 hH hK
  conv => arg 2; whnf
  go_wp2_with fail
  refine HK.out _ ⟨rfl, rfl, ?_⟩
  simp only [base, List.forall_mem_cons, List.not_mem_nil, false_imp_iff, implies_true, and_true]
  exact ⟨rfl, rfl, rfl, rfl, rfl, rfl, rfl, rfl, rfl, rfl, rfl, rfl, rfl, rfl⟩

set_option maxHeartbeats 4000000 in
theorem s4lt (X : Ctx) (w : World) (a : Act) (bt g h i : Nat) (Q : Exit → Act → World → Prop) (Kc : Act → World → Prop) (hlt : i < X.n) (hH : Has a (base X [(20, .pointer (some ⟨bt, 0, none⟩)), (22, .slice (some ⟨h, 0, none⟩) X.m X.m), (25, .slice (some ⟨g, 0, none⟩) X.n X.n), (26, .int .i64 (i : Int))]))
    (hK : ∀ (a' : Act), Has a' (base X [(20, .pointer (some ⟨bt, 0, none⟩)), (22, .slice (some ⟨h, 0, none⟩) X.m X.m), (25, .slice (some ⟨g, 0, none⟩) X.n X.n), (26, .int .i64 (i : Int))]) → Kc a' w) :
    Code.wp Try.prog (nthC 0 (b4 Try.f4)) (Exit.then Kc Q) a w := by
  have HK : Hid (∀ (a' : Act), Has a' (base X [(20, .pointer (some ⟨bt, 0, none⟩)), (22, .slice (some ⟨h, 0, none⟩) X.m X.m), (25, .slice (some ⟨g, 0, none⟩) X.n X.n), (26, .int .i64 (i : Int))]) → Kc a' w) := hK
  obtain ⟨x, rfl, hx⟩ := hH.open
  simp only [base, List.forall_mem_cons, List.not_mem_nil, false_imp_iff, implies_true, and_true] at hx
  obtain ⟨e0, e1, e2, e3, e4, e5, e6, e7, e20, e22, e25, e26⟩ := hx
  unfold Fr
  simp only [e0, e1, e2, e3, e4, e5, e6, e7, e20, e22, e25, e26]
  clear e0 e1 e2 e3 e4 e5 e6 e7 e20 e22 e25 e26 hH hK
  conv => arg 2; whnf
  go_wp2_with fail
  refine HK.out _ ⟨rfl, rfl, ?_⟩
  simp only [base, List.forall_mem_cons, List.not_mem_nil, false_imp_iff, implies_true, and_true]
  exact ⟨rfl, rfl, rfl, rfl, rfl, rfl, rfl, rfl, rfl, rfl, rfl, rfl⟩

set_option maxHeartbeats 4000000 in
theorem s4inc (X : Ctx) (w : World) (a : Act) (bt g h i : Nat) (Q : Exit → Act → World → Prop) (Kc : Act → World → Prop) (hlt : i < X.n) (hn : X.n ≤ 4096) (hH : Has a (base X [(20, .pointer (some ⟨bt, 0, none⟩)), (22, .slice (some ⟨h, 0, none⟩) X.m X.m), (25, .slice (some ⟨g, 0, none⟩) X.n X.n), (26, .int .i64 (i : Int))]))
    (hK : ∀ (a' : Act), Has a' (base X [(20, .pointer (some ⟨bt, 0, none⟩)), (22, .slice (some ⟨h, 0, none⟩) X.m X.m), (25, .slice (some ⟨g, 0, none⟩) X.n X.n), (26, .int .i64 ((i + 1 : Nat) : Int))]) → Kc a' w) :
    Code.wp Try.prog (restC 2 (b4 Try.f4)) (Exit.then Kc Q) a w := by
  have HK : Hid (∀ (a' : Act), Has a' (base X [(20, .pointer (some ⟨bt, 0, none⟩)), (22, .slice (some ⟨h, 0, none⟩) X.m X.m), (25, .slice (some ⟨g, 0, none⟩) X.n X.n), (26, .int .i64 ((i + 1 : Nat) : Int))]) → Kc a' w) := hK
  obtain ⟨x, rfl, hx⟩ := hH.open
  simp only [base, List.forall_mem_cons, List.not_mem_nil, false_imp_iff, implies_true, and_true] at hx
  obtain ⟨e0, e1, e2, e3, e4, e5, e6, e7, e20, e22, e25, e26⟩ := hx
  unfold Fr
  simp only [e0, e1, e2, e3, e4, e5, e6, e7, e20, e22, e25, e26]
  clear e0 e1 e2 e3 e4 e5 e6 e7 e20 e22 e25 e26 hH hK
  conv => arg 2; whnf
  go_wp2_with fail
  refine HK.out _ ⟨rfl, rfl, ?_⟩
  simp only [base, List.forall_mem_cons, List.not_mem_nil, false_imp_iff, implies_true, and_true]
  exact ⟨rfl, rfl, rfl, rfl, rfl, rfl, rfl, rfl, rfl, rfl, rfl, rfl⟩

set_option maxHeartbeats 4000000 in
theorem s4ge (X : Ctx) (w : World) (a : Act) (bt g h i : Nat) (Q : Exit → Act → World → Prop) (Kc : Act → World → Prop) (hge : ¬ i < X.n) (hH : Has a (base X [(20, .pointer (some ⟨bt, 0, none⟩)), (22, .slice (some ⟨h, 0, none⟩) X.m X.m), (25, .slice (some ⟨g, 0, none⟩) X.n X.n), (26, .int .i64 (i : Int))]))
    (hK : ∀ (a' : Act), Has a' (base X [(20, .pointer (some ⟨bt, 0, none⟩)), (22, .slice (some ⟨h, 0, none⟩) X.m X.m), (25, .slice (some ⟨g, 0, none⟩) X.n X.n)]) → Q (.exit 6) a' w) :
    Code.wp Try.prog (nthC 0 (b4 Try.f4)) (Exit.then Kc Q) a w := by
  have HK : Hid (∀ (a' : Act), Has a' (base X [(20, .pointer (some ⟨bt, 0, none⟩)), (22, .slice (some ⟨h, 0, none⟩) X.m X.m), (25, .slice (some ⟨g, 0, none⟩) X.n X.n)]) → Q (.exit 6) a' w) := hK
  obtain ⟨x, rfl, hx⟩ := hH.open
  simp only [base, List.forall_mem_cons, List.not_mem_nil, false_imp_iff, implies_true, and_true] at hx
  obtain ⟨e0, e1, e2, e3, e4, e5, e6, e7, e20, e22, e25, e26⟩ := hx
  unfold Fr
  simp only [e0, e1, e2, e3, e4, e5, e6, e7, e20, e22, e25, e26]
  clear e0 e1 e2 e3 e4 e5 e6 e7 e20 e22 e25 e26 hH hK
  conv => arg 2; whnf
  go_wp2_with fail
  refine HK.out _ ⟨rfl, rfl, ?_⟩
  simp only [base, List.forall_mem_cons, List.not_mem_nil, false_imp_iff, implies_true, and_true]
  exact ⟨rfl, rfl, rfl, rfl, rfl, rfl, rfl, rfl, rfl, rfl, rfl⟩

def SameW (a b : World) : Prop := a = b
theorem SameW.rfl' (a : World) : SameW a a := rfl
/-- loop 5: above j the row's hits are deletes -/
def I5 (X : Ctx) (Z : SC) (i : Nat) (j la : Int) : Prop :=
  (∀ (x : Nat) (z : List UInt8 × VR), j < (x : Int) → Z[x]? = some z → idxL (X.K.map byL) z.1 = (i : Int) → z.2.d = true) ∧
  ((la = -1 ∧ ∀ (x : Nat) (z : List UInt8 × VR), j < (x : Int) → Z[x]? = some z → idxL (X.K.map byL) z.1 ≠ (i : Int)) ∨
   (∃ (p : Nat) (z : List UInt8 × VR), la = (p : Int) ∧ Z[p]? = some z ∧ idxL (X.K.map byL) z.1 = (i : Int) ∧ ∀ (x : Nat) (z' : List UInt8 × VR), p < x → Z[x]? = some z' → idxL (X.K.map byL) z'.1 ≠ (i : Int)))
theorem I5.next {X : Ctx} {Z : SC} {i : Nat} {j : Nat} {la : Int} {z : List UInt8 × VR} (h : I5 X Z i (j : Int) la) (hz : Z[j]? = some z) (hn : idxL (X.K.map byL) z.1 ≠ (i : Int)) : I5 X Z i ((j : Int) - 1) la := by
  have key : ∀ (x : Nat) (z' : List UInt8 × VR), ((j : Int) - 1) < (x : Int) → Z[x]? = some z' → idxL (X.K.map byL) z'.1 = (i : Int) → (j : Int) < (x : Int) := fun x z' hx hz' hit => by
    by_cases e : x = j
    · subst e; rw [hz] at hz'; exact absurd (by rw [Option.some.inj hz']; exact hit) hn
    · omega
  refine ⟨fun x z' hx hz' hit => h.1 x z' (key x z' hx hz' hit) hz' hit, ?_⟩
  rcases h.2 with ⟨e, h2⟩ | h2
  · exact .inl ⟨e, fun x z' hx hz' hit => h2 x z' (key x z' hx hz' hit) hz' hit⟩
  · exact .inr h2
theorem I5.hit {X : Ctx} {Z : SC} {i : Nat} {j : Nat} {la : Int} {z : List UInt8 × VR} (h : I5 X Z i (j : Int) la) (hz : Z[j]? = some z) (hn : idxL (X.K.map byL) z.1 = (i : Int)) :
    FA X Z i (if la < 0 then (j : Int) else la) ∧ (z.2.d = true → I5 X Z i ((j : Int) - 1) (if la < 0 then (j : Int) else la)) ∧ (z.2.d = false → FP X Z i (j : Int)) := by
  have hA : (∃ (p : Nat) (z : List UInt8 × VR), (if la < 0 then (j : Int) else la) = (p : Int) ∧ Z[p]? = some z ∧ idxL (X.K.map byL) z.1 = (i : Int) ∧ ∀ (x : Nat) (z' : List UInt8 × VR), p < x → Z[x]? = some z' → idxL (X.K.map byL) z'.1 ≠ (i : Int)) := by
    rcases h.2 with ⟨e, h2⟩ | ⟨p, z1, e, h2⟩
    · refine ⟨j, z, by rw [if_pos (by omega)], hz, hn, fun x z' hx hz' => h2 x z' (by omega) hz'⟩
    · exact ⟨p, z1, by rw [if_neg (by omega)]; exact e, h2⟩
  refine ⟨.inr hA, fun hd => ⟨fun x z' hx hz' hit => ?_, .inr hA⟩, fun hd => .inr ⟨j, z, rfl, hz, hn, hd, fun x z' hx hz' hit => h.1 x z' (by omega) hz' hit⟩⟩
  by_cases e : x = j
  · subst e; rw [hz] at hz'; rw [← Option.some.inj hz']; exact hd
  · exact h.1 x z' (by omega) hz' hit

set_option maxHeartbeats 8000000 in
theorem s42 (X : Ctx) (w0 w : World) (a : Act) (bt g h i : Nat) (Rs : List RW) (Z : SC) (Q : Exit → Act → World → Prop) (Kc : Act → World → Prop) (hi0 : Inp X w0) (hS : St X w0 w bt g h Rs Z)
    (hH : Has a (base X [(20, .pointer (some ⟨bt, 0, none⟩)), (22, .slice (some ⟨h, 0, none⟩) X.m X.m), (25, .slice (some ⟨g, 0, none⟩) X.n X.n), (26, .int .i64 (i : Int)), (27, .int .i64 (-1)), (28, .int .i64 (-1))]))
    (hK : ∀ (a' : Act) (la lp : Int), Has a' (base X [(20, .pointer (some ⟨bt, 0, none⟩)), (22, .slice (some ⟨h, 0, none⟩) X.m X.m), (25, .slice (some ⟨g, 0, none⟩) X.n X.n), (26, .int .i64 (i : Int)), (27, .int .i64 la), (28, .int .i64 lp)]) → FA X Z i la → FP X Z i lp → Kc a' w) :
    Code.wp Try.prog (nthC 2 (in4 Try.f4)) (Exit.then Kc Q) a w := by
  have HK : Hid (∀ (a' : Act) (la lp : Int), Has a' (base X [(20, .pointer (some ⟨bt, 0, none⟩)), (22, .slice (some ⟨h, 0, none⟩) X.m X.m), (25, .slice (some ⟨g, 0, none⟩) X.n X.n), (26, .int .i64 (i : Int)), (27, .int .i64 la), (28, .int .i64 lp)]) → FA X Z i la → FP X Z i lp → Kc a' w) := hK
  have HI : Hid (Inp X w0) := hi0
  have HS : Hid (St X w0 w bt g h Rs Z) := hS
  have hm := hi0.hm
  obtain ⟨x, rfl, hx⟩ := hH.open
  simp only [base, List.forall_mem_cons, List.not_mem_nil, false_imp_iff, implies_true, and_true] at hx
  obtain ⟨e0, e1, e2, e3, e4, e5, e6, e7, e20, e22, e25, e26, e27, e28⟩ := hx
  unfold Fr
  simp only [e0, e1, e2, e3, e4, e5, e6, e7, e20, e22, e25, e26, e27, e28]
  clear e0 e1 e2 e3 e4 e5 e6 e7 e20 e22 e25 e26 e27 e28 hH hK hS hi0
  conv => arg 2; whnf
  go_wp2_with fail
  refine wp_loop (fun a w' => SameW w' w ∧ ∃ (j la : Int), -1 ≤ j ∧ j < X.m ∧ Has a (base X [(20, .pointer (some ⟨bt, 0, none⟩)), (22, .slice (some ⟨h, 0, none⟩) X.m X.m), (25, .slice (some ⟨g, 0, none⟩) X.n X.n), (26, .int .i64 (i : Int)), (27, .int .i64 la), (28, .int .i64 (-1)), (29, .int .i64 j)]) ∧ I5 X Z i j la) (muD 29) ?_ ?_
  · refine ⟨SameW.rfl' _, (X.m : Int) - 1, -1, by omega, by omega, ⟨rfl, rfl, ?_⟩, fun x z hx hz => ?_, .inl ⟨rfl, fun x z hx hz => ?_⟩⟩
    · simp only [base, List.forall_mem_cons, List.not_mem_nil, false_imp_iff, implies_true, and_true]
      exact ⟨rfl, rfl, rfl, rfl, rfl, rfl, rfl, rfl, rfl, rfl, rfl, rfl, rfl, rfl, rfl⟩
    · have := (List.getElem?_eq_some_iff.1 hz).1
      rw [HS.out.zl] at this; omega
    · have := (List.getElem?_eq_some_iff.1 hz).1
      rw [HS.out.zl] at this; omega
  · rintro a wr ⟨hw, j, la, hj0, hj1, hH, h5⟩
    obtain rfl : wr = w := hw
    have H5 : Hid (I5 X Z i j la) := h5
    obtain ⟨x, rfl, hx⟩ := hH.open
    simp only [base, List.forall_mem_cons, List.not_mem_nil, false_imp_iff, implies_true, and_true] at hx
    obtain ⟨e0, e1, e2, e3, e4, e5, e6, e7, e20, e22, e25, e26, e27, e28, e29⟩ := hx
    unfold Fr
    simp only [e0, e1, e2, e3, e4, e5, e6, e7, e20, e22, e25, e26, e27, e28, e29]
    clear e0 e1 e2 e3 e4 e5 e6 e7 e20 e22 e25 e26 e27 e28 e29 hH h5
    by_cases hlt : 0 ≤ j
    · obtain ⟨jn, rfl⟩ := Int.eq_ofNat_of_zero_le hlt
      have hjm : jn < X.m := by omega
      have hjz : jn < Z.length := by rw [HS.out.zl]; exact hjm
      obtain ⟨z, hz⟩ : ∃ z, Z[jn]? = some z := ⟨_, List.getElem?_eq_getElem hjz⟩
      have cI := HS.out.at jn z hz
      obtain ⟨bd, od, td, eD, cD, qD⟩ := HI.out.atD jn hjm
      rw [← HS.out.af.below.cell (cell_lt cD)] at cD
      obtain ⟨k1, v1, x1, x2, x3, x4, x5, x6⟩ := HS.out.af.sc jn z hz
      rw [qD] at x6
      have HD : Hid (td = z.2.d) := Option.some.inj x6
      have HZ : Hid (Z[jn]? = some z) := hz
      have E : Hid (X.a7 = some ⟨bd, od, none⟩) := eD
      obtain ⟨ix, hix⟩ : ∃ ix, idxL (X.K.map byL) z.1 = ix := ⟨_, rfl⟩
      have HX : Hid (idxL (X.K.map byL) z.1 = ix) := hix
      rw [hix] at cI
      clear hz x1 x2 x3 x4 x5 x6 qD hix hjz
      rw [eD]
      clear eD
      by_cases hne : ix = (i : Int)
      · subst hne
        obtain ⟨hfa, hd1, hd2⟩ := H5.out.hit HZ.out HX.out
        have HF : Hid (FA X Z i (if la < 0 then (jn : Int) else la)) := hfa
        have HD1 : Hid (z.2.d = true → I5 X Z i ((jn : Int) - 1) (if la < 0 then (jn : Int) else la)) := hd1
        have HD2 : Hid (z.2.d = false → FP X Z i (jn : Int)) := hd2
        clear hfa hd1 hd2
        by_cases hla : la < 0
        · rw [if_pos hla] at HF HD1
          cases td
          · go_wp2_with fail
            refine HK.out _ (jn : Int) (jn : Int) ⟨rfl, rfl, ?_⟩ HF.out (HD2.out HD.out.symm)
            simp only [base, List.forall_mem_cons, List.not_mem_nil, false_imp_iff, implies_true, and_true]
            rw [E.out]
            exact ⟨rfl, rfl, rfl, rfl, rfl, rfl, rfl, rfl, rfl, rfl, rfl, rfl, rfl, rfl⟩
          · go_wp2_with fail
            refine ⟨⟨SameW.rfl' _, (jn : Int) - 1, (jn : Int), by omega, by omega, ⟨rfl, rfl, ?_⟩, HD1.out HD.out.symm⟩, ?_⟩
            · simp only [base, List.forall_mem_cons, List.not_mem_nil, false_imp_iff, implies_true, and_true]
              rw [E.out]
              exact ⟨rfl, rfl, rfl, rfl, rfl, rfl, rfl, rfl, rfl, rfl, rfl, rfl, rfl, rfl, rfl⟩
            · show ((jn : Int) - 1 + 1).toNat < ((jn : Int) + 1).toNat
              omega
        · rw [if_neg hla] at HF HD1
          cases td
          · go_wp2_with fail
            refine HK.out _ la (jn : Int) ⟨rfl, rfl, ?_⟩ HF.out (HD2.out HD.out.symm)
            simp only [base, List.forall_mem_cons, List.not_mem_nil, false_imp_iff, implies_true, and_true]
            rw [E.out]
            exact ⟨rfl, rfl, rfl, rfl, rfl, rfl, rfl, rfl, rfl, rfl, rfl, rfl, rfl, rfl⟩
          · go_wp2_with fail
            refine ⟨⟨SameW.rfl' _, (jn : Int) - 1, by omega, by omega, la, ⟨rfl, rfl, ?_⟩, HD1.out HD.out.symm⟩, ?_⟩
            · simp only [base, List.forall_mem_cons, List.not_mem_nil, false_imp_iff, implies_true, and_true]
              rw [E.out]
              exact ⟨rfl, rfl, rfl, rfl, rfl, rfl, rfl, rfl, rfl, rfl, rfl, rfl, rfl, rfl, rfl⟩
            · show ((jn : Int) - 1 + 1).toNat < ((jn : Int) + 1).toNat
              omega
      · have hb : (ix == (i : Int)) = false := by simpa using hne
        have H6 : Hid (I5 X Z i ((jn : Int) - 1) la) := H5.out.next HZ.out (by rw [HX.out]; exact hne)
        go_wp2_with fail
        refine ⟨⟨SameW.rfl' _, (jn : Int) - 1, la, by omega, by omega, ⟨rfl, rfl, ?_⟩, H6.out⟩, ?_⟩
        · simp only [base, List.forall_mem_cons, List.not_mem_nil, false_imp_iff, implies_true, and_true]
          rw [E.out]
          exact ⟨rfl, rfl, rfl, rfl, rfl, rfl, rfl, rfl, rfl, rfl, rfl, rfl, rfl, rfl, rfl⟩
        · show ((jn : Int) - 1 + 1).toNat < ((jn : Int) + 1).toNat
          omega
    · have hj : j = -1 := by omega
      subst hj
      have HF : Hid (FA X Z i la ∧ FP X Z i (-1)) := by
        refine ⟨?_, .inl ⟨rfl, fun x z hz hit => H5.out.1 x z (by omega) hz hit⟩⟩
        rcases H5.out.2 with ⟨e, h2⟩ | h2
        · exact .inl ⟨e, fun x z hz => h2 x z (by omega) hz⟩
        · exact .inr h2
      go_wp2_with fail
      refine HK.out _ la (-1) ⟨rfl, rfl, ?_⟩ HF.out.1 HF.out.2
      simp only [base, List.forall_mem_cons, List.not_mem_nil, false_imp_iff, implies_true, and_true]
      exact ⟨rfl, rfl, rfl, rfl, rfl, rfl, rfl, rfl, rfl, rfl, rfl, rfl, rfl, rfl⟩


theorem wp_seq2 {P : Program} {x y z : Code} {Q : Exit → Act → World → Prop} {a : Act} {w : World} (h : x.wp P (Exit.then (fun a w => y.wp P (Exit.then (fun a w => z.wp P Q a w) Q) a w) Q) a w) : (Code.seq x (Code.seq y z)).wp P Q a w :=
  wp_seq (Code.wp_mono (fun e a w q => by
    cases e with
    | normal => exact wp_seq q
    | exit id => exact q
    | goto l => exact q
    | ret => exact q
    | panic c => exact q
    | outgrown => exact q) h)
theorem St.row {X : Ctx} {w0 w : World} {bt g h : Nat} {Rs : List RW} {Z : SC} (s : St X w0 w bt g h Rs Z) (i : Nat) (hi : i < X.n) :
    ∃ r0 k0, Rs[i]? = some r0 ∧ X.K[i]? = some k0 ∧ IsV w (rfold (X.K.map byL) (i : Int) Z r0).k k0 ∧ (foldR (X.K.map byL) Z Rs)[i]? = some (rfold (X.K.map byL) (i : Int) Z r0) := by
  have h1 : i < Rs.length := by rw [s.af.rl]; exact hi
  obtain ⟨k, v, q1, q2, q3, q4, q5⟩ := s.af.rows i Rs[i] (List.getElem?_eq_getElem h1)
  refine ⟨Rs[i], k, List.getElem?_eq_getElem h1, q1, by rw [rfold_k]; exact q4, ?_⟩
  rw [foldR_at, List.getElem?_eq_getElem h1]; rfl

set_option maxHeartbeats 4000000 in
theorem round4 (X : Ctx) (w0 w : World) (a : Act) (bt g h i : Nat) (Rs : List RW) (Z : SC) (Q : Exit → Act → World → Prop) (Kc : Act → World → Prop) (hi0 : Inp X w0) (hS : St X w0 w bt g h Rs Z) (hi : i < X.n)
    (hH : Has a (base X [(20, .pointer (some ⟨bt, 0, none⟩)), (22, .slice (some ⟨h, 0, none⟩) X.m X.m), (25, .slice (some ⟨g, 0, none⟩) X.n X.n), (26, .int .i64 (i : Int))]))
    (hK : ∀ (a' : Act) (n : Nat), Has a' (base X [(20, .pointer (some ⟨bt, 0, none⟩)), (22, .slice (some ⟨h, 0, none⟩) X.m X.m), (25, .slice (some ⟨g, 0, none⟩) X.n X.n), (26, .int .i64 ((i + 1 : Nat) : Int))]) → Kc a' (w.drewN n)) :
    Code.wp Try.prog (b4 Try.f4) (Exit.then Kc Q) a w := by
  obtain ⟨r0, k0, hr0, hk0, hrk, hrr⟩ := hS.row i hi
  rw [b4_eq]
  refine wp_seq (s4lt X w a bt g h i _ _ hi hH fun a1 h1 => ?_)
  refine wp_seq (wp_block ?_)
  rw [in4_eq]
  refine wp_seq (s40 X w a1 bt g h i _ _ h1 fun a2 h2 => ?_)
  refine wp_seq (s41 X w a2 bt g h i _ _ h2 fun a3 h3 => ?_)
  refine wp_seq (s42 X w0 w a3 bt g h i Rs Z _ _ hi0 hS h3 fun a4 la lp h4 hfa hfp => ?_)
  refine wp_seq2 (tV X w0 w a4 bt g h i la lp Rs Z r0 _ _ hi0 hS hi hr0 hfp h4 fun a5 tw ov h5 h6 h7 => ?_)
  refine wp_seq2 (tT X w0 w a5 bt g h i la tw Rs Z r0 _ _ hi0 hS hi hr0 hfa h5 fun a6 h8 => ?_)
  refine Code.wp_mono ?_ (tC X w0 w a6 bt g h i tw ov Rs Z _ (fun _ _ _ => False) (fun a w' => ∃ n, w' = w.drewN n ∧ Has a (base X [(20, .pointer (some ⟨bt, 0, none⟩)), (22, .slice (some ⟨h, 0, none⟩) X.m X.m), (25, .slice (some ⟨g, 0, none⟩) X.n X.n), (26, .int .i64 (i : Int))])) hi0 hS hi hrr k0 hk0 hrk h6 h7 h8 fun a7 n h9 => ⟨n, rfl, h9⟩)
  intro e a7 w7 q
  cases e with
  | normal =>
    obtain ⟨n, rfl, h9⟩ := q
    show Code.wp Try.prog (restC 2 (b4 Try.f4)) _ a7 _
    exact s4inc X (w.drewN n) a7 bt g h i _ _ hi hi0.hn h9 fun a8 h10 => hK a8 n h10
  | exit id => exact q.elim
  | goto l => exact q.elim
  | ret => exact q.elim
  | panic c => exact q.elim
  | outgrown => exact q.elim

set_option maxHeartbeats 4000000 in
theorem s26a (X : Ctx) (w : World) (a : Act) (bt g h : Nat) (Q : Exit → Act → World → Prop) (Kc : Act → World → Prop) (hH : Has a (base X [(20, .pointer (some ⟨bt, 0, none⟩)), (22, .slice (some ⟨h, 0, none⟩) X.m X.m), (25, .slice (some ⟨g, 0, none⟩) X.n X.n)]))
    (hK : ∀ (a' : Act), Has a' (base X [(20, .pointer (some ⟨bt, 0, none⟩)), (22, .slice (some ⟨h, 0, none⟩) X.m X.m), (25, .slice (some ⟨g, 0, none⟩) X.n X.n), (26, .int .i64 ((0 : Nat) : Int))]) → Kc a' w) :
    Code.wp Try.prog (nthC 0 (seg Try.f4 26)) (Exit.then Kc Q) a w := by
  have HK : Hid (∀ (a' : Act), Has a' (base X [(20, .pointer (some ⟨bt, 0, none⟩)), (22, .slice (some ⟨h, 0, none⟩) X.m X.m), (25, .slice (some ⟨g, 0, none⟩) X.n X.n), (26, .int .i64 ((0 : Nat) : Int))]) → Kc a' w) := hK
  obtain ⟨x, rfl, hx⟩ := hH.open
  simp only [base, List.forall_mem_cons, List.not_mem_nil, false_imp_iff, implies_true, and_true] at hx
  obtain ⟨e0, e1, e2, e3, e4, e5, e6, e7, e20, e22, e25⟩ := hx
  unfold Fr
  simp only [e0, e1, e2, e3, e4, e5, e6, e7, e20, e22, e25]
  clear e0 e1 e2 e3 e4 e5 e6 e7 e20 e22 e25 hH hK
  conv => arg 2; whnf
  go_wp2_with fail
  refine HK.out _ ⟨rfl, rfl, ?_⟩
  simp only [base, List.forall_mem_cons, List.not_mem_nil, false_imp_iff, implies_true, and_true]
  exact ⟨rfl, rfl, rfl, rfl, rfl, rfl, rfl, rfl, rfl, rfl, rfl, rfl⟩

theorem mu_has {a : Act} {L : List (Nat × Value)} {k i n : Nat} (w : World) (h : Has a L) (hm : (k, Value.int .i64 (i : Int)) ∈ L) : mu k n a w = n - i := by
  have := h.2.2 _ hm
  simp only at this
  unfold mu
  rw [this]; simp
theorem seg26 (X : Ctx) (w0 w : World) (a : Act) (bt g h : Nat) (Rs : List RW) (Z : SC) (Q : Exit → Act → World → Prop) (Kc : Act → World → Prop) (hi0 : Inp X w0) (hS : St X w0 w bt g h Rs Z)
    (hH : Has a (base X [(20, .pointer (some ⟨bt, 0, none⟩)), (22, .slice (some ⟨h, 0, none⟩) X.m X.m), (25, .slice (some ⟨g, 0, none⟩) X.n X.n)]))
    (hK : ∀ (a' : Act) (w' : World), Has a' (base X [(20, .pointer (some ⟨bt, 0, none⟩)), (22, .slice (some ⟨h, 0, none⟩) X.m X.m), (25, .slice (some ⟨g, 0, none⟩) X.n X.n)]) → St X w0 w' bt g h Rs Z → Kc a' w') :
    Code.wp Try.prog (seg Try.f4 26) (Exit.then Kc Q) a w := by
  rw [seg26_eq]
  refine wp_seq (s26a X w a bt g h _ _ hH fun a1 h1 => wp_block ?_)
  refine wp_loop (fun a w => ∃ i : Nat, i ≤ X.n ∧ Has a (base X [(20, .pointer (some ⟨bt, 0, none⟩)), (22, .slice (some ⟨h, 0, none⟩) X.m X.m), (25, .slice (some ⟨g, 0, none⟩) X.n X.n), (26, .int .i64 (i : Int))]) ∧ St X w0 w bt g h Rs Z) (mu 26 X.n) ⟨0, Nat.zero_le _, h1, hS⟩ ?_
  rintro a2 w2 ⟨i, hin, h2, hS2⟩
  by_cases hlt : i < X.n
  · refine round4 X w0 w2 a2 bt g h i Rs Z _ _ hi0 hS2 hlt h2 fun a3 n h3 => ⟨⟨i + 1, hlt, h3, hS2.later (Below.drewN' _ _)⟩, ?_⟩
    rw [mu_has (i := i + 1) _ h3 (by simp [base]), mu_has (i := i) _ h2 (by simp [base])]
    omega
  · rw [b4_eq]
    refine wp_seq (s4ge X w2 a2 bt g h i _ _ hlt h2 fun a3 h3 => ?_)
    exact hK a3 w2 h3 hS2
end Go.Proofs.Qxb6617343a
