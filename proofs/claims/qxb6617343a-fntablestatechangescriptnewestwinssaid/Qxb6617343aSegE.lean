import Derived.Test.Qxb6617343aLawR
namespace Go.Proofs.Qxb6617343a
open Go.RowKit
set_option maxRecDepth 100000

/-- the state after the script, and the rows that it hits -/
structure St (X : Ctx) (w0 w : World) (bt g h : Nat) (Rs : List RW) (Z : SC) : Prop where
  af : After X w0 w bt g Rs Z
  ix : w.heap[h]? = some (.cells (ints (IX X Z)).toArray 3 (0, 0))
  zl : Z.length = X.m
theorem St.later {X : Ctx} {w0 w w' : World} {bt g h : Nat} {Rs : List RW} {Z : SC} (s : St X w0 w bt g h Rs Z) (hb : Below w.heap.size w w') : St X w0 w' bt g h Rs Z :=
  ⟨s.af.later hb, by rw [hb.block h (Array.getElem?_eq_some_iff.1 s.ix).1]; exact s.ix, s.zl⟩
theorem St.at {X : Ctx} {w0 w : World} {bt g h : Nat} {Rs : List RW} {Z : SC} (s : St X w0 w bt g h Rs Z) (j : Nat) (z : List UInt8 × VR) (hz : Z[j]? = some z) : w.cell? ⟨h, j, none⟩ = some (.int .i64 (idxL (X.K.map byL) z.1)) := by
  rw [cell_of_row w h j _ 3 (0, 0) s.ix]
  simp [ints, IX, hz]

set_option maxHeartbeats 4000000 in
theorem seg23 (X : Ctx) (w0 w : World) (a : Act) (bt g h : Nat) (Rs : List RW) (Z : SC) (Kc : Act → World → Prop)
    (hH : Has a (base X [(20, .pointer (some ⟨bt, 0, none⟩)), (22, .slice (some ⟨h, 0, none⟩) X.m X.m), (23, .bool (foldD (X.K.map byL) Z X.d))])) (hS : St X w0 w bt g h Rs Z)
    (hK : ∀ (a' : Act), Has a' (base X [(20, .pointer (some ⟨bt, 0, none⟩)), (22, .slice (some ⟨h, 0, none⟩) X.m X.m)]) → Kc a' w) :
    Code.wp Try.prog (seg Try.f4 23) (Exit.then Kc (bodyPost Try.prog Try.f4 (PostF w0))) a w := by
  have HK : Hid (∀ (a' : Act), Has a' (base X [(20, .pointer (some ⟨bt, 0, none⟩)), (22, .slice (some ⟨h, 0, none⟩) X.m X.m)]) → Kc a' w) := hK
  obtain ⟨mv, hT⟩ := hS.af.ts
  have h16 := del16 hT
  generalize foldD (X.K.map byL) Z X.d = D0 at hH h16
  have HC : Hid (∀ R : Ending → World → Prop, R (.returned (.bool D0)) w → Calls Try.prog 16 #[.pointer (some ⟨bt, 0, none⟩)] w R) := fun R hR => h16.mono (by rintro e w' ⟨rfl, rfl⟩; exact hR)
  obtain ⟨x, rfl, hx⟩ := hH.open
  simp only [base, List.forall_mem_cons, List.not_mem_nil, false_imp_iff, implies_true, and_true] at hx
  obtain ⟨e0, e1, e2, e3, e4, e5, e6, e7, e20, e22, e23⟩ := hx
  unfold Fr
  simp only [e0, e1, e2, e3, e4, e5, e6, e7, e20, e22, e23]
  clear e0 e1 e2 e3 e4 e5 e6 e7 e20 e22 e23 hH hK hT h16
  conv => arg 2; whnf
  cases D0
  · go_wp2_with fail
    refine HC.out _ ?_
    go_wp2_with fail
    refine HK.out _ ⟨rfl, rfl, ?_⟩
    simp only [base, List.forall_mem_cons, List.not_mem_nil, false_imp_iff, implies_true, and_true]
    exact ⟨rfl, rfl, rfl, rfl, rfl, rfl, rfl, rfl, rfl, rfl⟩
  · go_wp2_with fail
    refine HC.out _ ?_
    go_wp2_with fail
    refine HK.out _ ⟨rfl, rfl, ?_⟩
    simp only [base, List.forall_mem_cons, List.not_mem_nil, false_imp_iff, implies_true, and_true]
    exact ⟨rfl, rfl, rfl, rfl, rfl, rfl, rfl, rfl, rfl, rfl⟩

set_option maxHeartbeats 4000000 in
theorem seg24 (X : Ctx) (w0 w : World) (a : Act) (bt g h : Nat) (Rs : List RW) (Z : SC) (Kc : Act → World → Prop)
    (hH : Has a (base X [(20, .pointer (some ⟨bt, 0, none⟩)), (22, .slice (some ⟨h, 0, none⟩) X.m X.m)])) (hS : St X w0 w bt g h Rs Z)
    (hK : ∀ (a' : Act), Has a' (base X [(20, .pointer (some ⟨bt, 0, none⟩)), (22, .slice (some ⟨h, 0, none⟩) X.m X.m), (25, .slice (some ⟨g, 0, none⟩) X.n X.n)]) → Kc a' w) :
    Code.wp Try.prog (seg Try.f4 24) (Exit.then Kc (bodyPost Try.prog Try.f4 (PostF w0))) a w := by
  have HK : Hid (∀ (a' : Act), Has a' (base X [(20, .pointer (some ⟨bt, 0, none⟩)), (22, .slice (some ⟨h, 0, none⟩) X.m X.m), (25, .slice (some ⟨g, 0, none⟩) X.n X.n)]) → Kc a' w) := hK
  obtain ⟨mv, hT⟩ := hS.af.ts
  have h14 := rows14 hT
  rw [foldR_len, hS.af.rl] at h14
  have HC : Hid (∀ R : Ending → World → Prop, R (.returned (.slice (some ⟨g, 0, none⟩) X.n X.n)) w → Calls Try.prog 14 #[.pointer (some ⟨bt, 0, none⟩)] w R) := fun R hR => h14.mono (by rintro e w' ⟨rfl, rfl⟩; exact hR)
  obtain ⟨x, rfl, hx⟩ := hH.open
  simp only [base, List.forall_mem_cons, List.not_mem_nil, false_imp_iff, implies_true, and_true] at hx
  obtain ⟨e0, e1, e2, e3, e4, e5, e6, e7, e20, e22⟩ := hx
  unfold Fr
  simp only [e0, e1, e2, e3, e4, e5, e6, e7, e20, e22]
  clear e0 e1 e2 e3 e4 e5 e6 e7 e20 e22 hH hK hT h14
  conv => arg 2; whnf
  go_wp2_with fail
  refine HC.out _ ?_
  go_wp2_with fail
  refine HK.out _ ⟨rfl, rfl, ?_⟩
  simp only [base, List.forall_mem_cons, List.not_mem_nil, false_imp_iff, implies_true, and_true]
  exact ⟨rfl, rfl, rfl, rfl, rfl, rfl, rfl, rfl, rfl, rfl, rfl⟩

set_option maxHeartbeats 4000000 in
theorem seg25 (X : Ctx) (w0 w : World) (a : Act) (bt g h : Nat) (Kc : Act → World → Prop)
    (hH : Has a (base X [(20, .pointer (some ⟨bt, 0, none⟩)), (22, .slice (some ⟨h, 0, none⟩) X.m X.m), (25, .slice (some ⟨g, 0, none⟩) X.n X.n)]))
    (hK : ∀ (a' : Act), Has a' (base X [(20, .pointer (some ⟨bt, 0, none⟩)), (22, .slice (some ⟨h, 0, none⟩) X.m X.m), (25, .slice (some ⟨g, 0, none⟩) X.n X.n)]) → Kc a' w) :
    Code.wp Try.prog (seg Try.f4 25) (Exit.then Kc (bodyPost Try.prog Try.f4 (PostF w0))) a w := by
  have HK : Hid (∀ (a' : Act), Has a' (base X [(20, .pointer (some ⟨bt, 0, none⟩)), (22, .slice (some ⟨h, 0, none⟩) X.m X.m), (25, .slice (some ⟨g, 0, none⟩) X.n X.n)]) → Kc a' w) := hK
  obtain ⟨x, rfl, hx⟩ := hH.open
  simp only [base, List.forall_mem_cons, List.not_mem_nil, false_imp_iff, implies_true, and_true] at hx
  obtain ⟨e0, e1, e2, e3, e4, e5, e6, e7, e20, e22, e25⟩ := hx
  unfold Fr
  simp only [e0, e1, e2, e3, e4, e5, e6, e7, e20, e22, e25]
  clear e0 e1 e2 e3 e4 e5 e6 e7 e20 e22 e25 hH hK
  conv => arg 2; whnf
  go_wp2_with fail
  refine HK.out _ ⟨rfl, rfl, ?_⟩
  simp only [base, List.forall_mem_cons, List.not_mem_nil, false_imp_iff, implies_true, and_true]
  exact ⟨rfl, rfl, rfl, rfl, rfl, rfl, rfl, rfl, rfl, rfl, rfl⟩
end Go.Proofs.Qxb6617343a
