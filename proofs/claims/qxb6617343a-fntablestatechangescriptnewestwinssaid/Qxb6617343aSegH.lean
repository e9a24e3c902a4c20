import Derived.Test.Qxb6617343aLawM
namespace Go.Proofs.Qxb6617343a
open Go.RowKit
set_option maxRecDepth 100000
def b6 (f : Func) : Code := (firstLoop (seg f 28)).getD .skip
def in6 (f : Func) : Code := blockIn (nthC 1 (b6 f))
theorem seg28_eq : seg Try.f4 28 = Code.seq (nthC 0 (seg Try.f4 28)) (Code.block 10 (Code.loop (b6 Try.f4))) := rfl
theorem b6_eq : (b6 Try.f4) = Code.seq (nthC 0 (b6 Try.f4)) (Code.seq (Code.block 11 (in6 Try.f4)) (restC 2 (b6 Try.f4))) := rfl
theorem in6_eq : (in6 Try.f4) = Code.seq (nthC 0 (in6 Try.f4)) (Code.seq (nthC 1 (in6 Try.f4)) (Code.seq (nthC 2 (in6 Try.f4)) (Code.seq (nthC 3 (in6 Try.f4)) (Code.seq (nthC 4 (in6 Try.f4)) (Code.seq (nthC 5 (in6 Try.f4)) (restC 6 (in6 Try.f4))))))) := rfl

set_option maxHeartbeats 4000000 in
theorem s27 (X : Ctx) (w : World) (a : Act) (bt h : Nat) (Q : Exit → Act → World → Prop) (Kc : Act → World → Prop) (hH : Has a (base X [(20, .pointer (some ⟨bt, 0, none⟩)), (22, .slice (some ⟨h, 0, none⟩) X.m X.m)]))
    (hK : ∀ (a' : Act), Has a' (base X [(20, .pointer (some ⟨bt, 0, none⟩)), (22, .slice (some ⟨h, 0, none⟩) X.m X.m), (32, .int .i64 ((0 : Nat) : Int))]) → Kc a' w) :
    Code.wp Try.prog (seg Try.f4 27) (Exit.then Kc Q) a w := by
  have HK : Hid (∀ (a' : Act), Has a' (base X [(20, .pointer (some ⟨bt, 0, none⟩)), (22, .slice (some ⟨h, 0, none⟩) X.m X.m), (32, .int .i64 ((0 : Nat) : Int))]) → Kc a' w) := hK
  obtain ⟨x, rfl, hx⟩ := hH.open
  simp only [base, List.forall_mem_cons, List.not_mem_nil, false_imp_iff, implies_true, and_true] at hx
  obtain ⟨e0, e1, e2, e3, e4, e5, e6, e7, e20, e22⟩ := hx
  unfold Fr
  simp only [e0, e1, e2, e3, e4, e5, e6, e7, e20, e22]
  clear e0 e1 e2 e3 e4 e5 e6 e7 e20 e22 hH hK
  conv => arg 2; whnf
  go_wp2_with fail
  refine HK.out _ ⟨rfl, rfl, ?_⟩
  simp only [base, List.forall_mem_cons, List.not_mem_nil, false_imp_iff, implies_true, and_true]
  exact ⟨rfl, rfl, rfl, rfl, rfl, rfl, rfl, rfl, rfl, rfl, rfl⟩

set_option maxHeartbeats 4000000 in
theorem s28a (X : Ctx) (w : World) (a : Act) (bt h c : Nat) (Q : Exit → Act → World → Prop) (Kc : Act → World → Prop) (hH : Has a (base X [(20, .pointer (some ⟨bt, 0, none⟩)), (22, .slice (some ⟨h, 0, none⟩) X.m X.m), (32, .int .i64 (c : Int))]))
    (hK : ∀ (a' : Act), Has a' (base X [(20, .pointer (some ⟨bt, 0, none⟩)), (22, .slice (some ⟨h, 0, none⟩) X.m X.m), (32, .int .i64 (c : Int)), (33, .int .i64 ((0 : Nat) : Int))]) → Kc a' w) :
    Code.wp Try.prog (nthC 0 (seg Try.f4 28)) (Exit.then Kc Q) a w := by
  have HK : Hid (∀ (a' : Act), Has a' (base X [(20, .pointer (some ⟨bt, 0, none⟩)), (22, .slice (some ⟨h, 0, none⟩) X.m X.m), (32, .int .i64 (c : Int)), (33, .int .i64 ((0 : Nat) : Int))]) → Kc a' w) := hK
  obtain ⟨x, rfl, hx⟩ := hH.open
  simp only [base, List.forall_mem_cons, List.not_mem_nil, false_imp_iff, implies_true, and_true] at hx
  obtain ⟨e0, e1, e2, e3, e4, e5, e6, e7, e20, e22, e32⟩ := hx
  unfold Fr
  simp only [e0, e1, e2, e3, e4, e5, e6, e7, e20, e22, e32]
  clear e0 e1 e2 e3 e4 e5 e6 e7 e20 e22 e32 hH hK
  conv => arg 2; whnf
  go_wp2_with fail
  refine HK.out _ ⟨rfl, rfl, ?_⟩
  simp only [base, List.forall_mem_cons, List.not_mem_nil, false_imp_iff, implies_true, and_true]
  exact ⟨rfl, rfl, rfl, rfl, rfl, rfl, rfl, rfl, rfl, rfl, rfl, rfl⟩

set_option maxHeartbeats 4000000 in
theorem s6lt (X : Ctx) (w : World) (a : Act) (bt h j c : Nat) (Q : Exit → Act → World → Prop) (Kc : Act → World → Prop) (hlt : j < X.m) (hH : Has a (base X [(20, .pointer (some ⟨bt, 0, none⟩)), (22, .slice (some ⟨h, 0, none⟩) X.m X.m), (32, .int .i64 (c : Int)), (33, .int .i64 (j : Int))]))
    (hK : ∀ (a' : Act), Has a' (base X [(20, .pointer (some ⟨bt, 0, none⟩)), (22, .slice (some ⟨h, 0, none⟩) X.m X.m), (32, .int .i64 (c : Int)), (33, .int .i64 (j : Int))]) → Kc a' w) :
    Code.wp Try.prog (nthC 0 (b6 Try.f4)) (Exit.then Kc Q) a w := by
  have HK : Hid (∀ (a' : Act), Has a' (base X [(20, .pointer (some ⟨bt, 0, none⟩)), (22, .slice (some ⟨h, 0, none⟩) X.m X.m), (32, .int .i64 (c : Int)), (33, .int .i64 (j : Int))]) → Kc a' w) := hK
  obtain ⟨x, rfl, hx⟩ := hH.open
  simp only [base, List.forall_mem_cons, List.not_mem_nil, false_imp_iff, implies_true, and_true] at hx
  obtain ⟨e0, e1, e2, e3, e4, e5, e6, e7, e20, e22, e32, e33⟩ := hx
  unfold Fr
  simp only [e0, e1, e2, e3, e4, e5, e6, e7, e20, e22, e32, e33]
  clear e0 e1 e2 e3 e4 e5 e6 e7 e20 e22 e32 e33 hH hK
  conv => arg 2; whnf
  go_wp2_with fail
  refine HK.out _ ⟨rfl, rfl, ?_⟩
  simp only [base, List.forall_mem_cons, List.not_mem_nil, false_imp_iff, implies_true, and_true]
  exact ⟨rfl, rfl, rfl, rfl, rfl, rfl, rfl, rfl, rfl, rfl, rfl, rfl⟩

set_option maxHeartbeats 4000000 in
theorem s6ge (X : Ctx) (w : World) (a : Act) (bt h j c : Nat) (Q : Exit → Act → World → Prop) (Kc : Act → World → Prop) (hge : ¬ j < X.m) (hH : Has a (base X [(20, .pointer (some ⟨bt, 0, none⟩)), (22, .slice (some ⟨h, 0, none⟩) X.m X.m), (32, .int .i64 (c : Int)), (33, .int .i64 (j : Int))]))
    (hK : ∀ (a' : Act), Has a' (base X [(20, .pointer (some ⟨bt, 0, none⟩)), (22, .slice (some ⟨h, 0, none⟩) X.m X.m), (32, .int .i64 (c : Int))]) → Q (.exit 10) a' w) :
    Code.wp Try.prog (nthC 0 (b6 Try.f4)) (Exit.then Kc Q) a w := by
  have HK : Hid (∀ (a' : Act), Has a' (base X [(20, .pointer (some ⟨bt, 0, none⟩)), (22, .slice (some ⟨h, 0, none⟩) X.m X.m), (32, .int .i64 (c : Int))]) → Q (.exit 10) a' w) := hK
  obtain ⟨x, rfl, hx⟩ := hH.open
  simp only [base, List.forall_mem_cons, List.not_mem_nil, false_imp_iff, implies_true, and_true] at hx
  obtain ⟨e0, e1, e2, e3, e4, e5, e6, e7, e20, e22, e32, e33⟩ := hx
  unfold Fr
  simp only [e0, e1, e2, e3, e4, e5, e6, e7, e20, e22, e32, e33]
  clear e0 e1 e2 e3 e4 e5 e6 e7 e20 e22 e32 e33 hH hK
  conv => arg 2; whnf
  go_wp2_with fail
  refine HK.out _ ⟨rfl, rfl, ?_⟩
  simp only [base, List.forall_mem_cons, List.not_mem_nil, false_imp_iff, implies_true, and_true]
  exact ⟨rfl, rfl, rfl, rfl, rfl, rfl, rfl, rfl, rfl, rfl, rfl⟩

set_option maxHeartbeats 4000000 in
theorem s6inc (X : Ctx) (w : World) (a : Act) (bt h j c : Nat) (Q : Exit → Act → World → Prop) (Kc : Act → World → Prop) (hlt : j < X.m) (hm : X.m ≤ 512) (hH : Has a (base X [(20, .pointer (some ⟨bt, 0, none⟩)), (22, .slice (some ⟨h, 0, none⟩) X.m X.m), (32, .int .i64 (c : Int)), (33, .int .i64 (j : Int))]))
    (hK : ∀ (a' : Act), Has a' (base X [(20, .pointer (some ⟨bt, 0, none⟩)), (22, .slice (some ⟨h, 0, none⟩) X.m X.m), (32, .int .i64 (c : Int)), (33, .int .i64 ((j + 1 : Nat) : Int))]) → Kc a' w) :
    Code.wp Try.prog (restC 2 (b6 Try.f4)) (Exit.then Kc Q) a w := by
  have HK : Hid (∀ (a' : Act), Has a' (base X [(20, .pointer (some ⟨bt, 0, none⟩)), (22, .slice (some ⟨h, 0, none⟩) X.m X.m), (32, .int .i64 (c : Int)), (33, .int .i64 ((j + 1 : Nat) : Int))]) → Kc a' w) := hK
  obtain ⟨x, rfl, hx⟩ := hH.open
  simp only [base, List.forall_mem_cons, List.not_mem_nil, false_imp_iff, implies_true, and_true] at hx
  obtain ⟨e0, e1, e2, e3, e4, e5, e6, e7, e20, e22, e32, e33⟩ := hx
  unfold Fr
  simp only [e0, e1, e2, e3, e4, e5, e6, e7, e20, e22, e32, e33]
  clear e0 e1 e2 e3 e4 e5 e6 e7 e20 e22 e32 e33 hH hK
  conv => arg 2; whnf
  go_wp2_with fail
  refine HK.out _ ⟨rfl, rfl, ?_⟩
  simp only [base, List.forall_mem_cons, List.not_mem_nil, false_imp_iff, implies_true, and_true]
  exact ⟨rfl, rfl, rfl, rfl, rfl, rfl, rfl, rfl, rfl, rfl, rfl, rfl⟩

set_option maxHeartbeats 4000000 in
theorem c1 (X : Ctx) (w : World) (a : Act) (bt h j c : Nat) (Q : Exit → Act → World → Prop) (Kc : Act → World → Prop) (hH : Has a (base X [(20, .pointer (some ⟨bt, 0, none⟩)), (22, .slice (some ⟨h, 0, none⟩) X.m X.m), (32, .int .i64 (c : Int)), (33, .int .i64 (j : Int))]))
    (hK : ∀ (a' : Act), Has a' (base X [(20, .pointer (some ⟨bt, 0, none⟩)), (22, .slice (some ⟨h, 0, none⟩) X.m X.m), (32, .int .i64 (c : Int)), (33, .int .i64 (j : Int)), (34, .bool false)]) → Kc a' w) :
    Code.wp Try.prog (nthC 1 (in6 Try.f4)) (Exit.then Kc Q) a w := by
  have HK : Hid (∀ (a' : Act), Has a' (base X [(20, .pointer (some ⟨bt, 0, none⟩)), (22, .slice (some ⟨h, 0, none⟩) X.m X.m), (32, .int .i64 (c : Int)), (33, .int .i64 (j : Int)), (34, .bool false)]) → Kc a' w) := hK
  obtain ⟨x, rfl, hx⟩ := hH.open
  simp only [base, List.forall_mem_cons, List.not_mem_nil, false_imp_iff, implies_true, and_true] at hx
  obtain ⟨e0, e1, e2, e3, e4, e5, e6, e7, e20, e22, e32, e33⟩ := hx
  unfold Fr
  simp only [e0, e1, e2, e3, e4, e5, e6, e7, e20, e22, e32, e33]
  clear e0 e1 e2 e3 e4 e5 e6 e7 e20 e22 e32 e33 hH hK
  conv => arg 2; whnf
  go_wp2_with fail
  refine HK.out _ ⟨rfl, rfl, ?_⟩
  simp only [base, List.forall_mem_cons, List.not_mem_nil, false_imp_iff, implies_true, and_true]
  exact ⟨rfl, rfl, rfl, rfl, rfl, rfl, rfl, rfl, rfl, rfl, rfl, rfl, rfl⟩

set_option maxHeartbeats 4000000 in
theorem c3t (X : Ctx) (w : World) (a : Act) (bt h j c : Nat) (Q : Exit → Act → World → Prop) (Kc : Act → World → Prop) (hH : Has a (base X [(20, .pointer (some ⟨bt, 0, none⟩)), (22, .slice (some ⟨h, 0, none⟩) X.m X.m), (32, .int .i64 (c : Int)), (33, .int .i64 (j : Int)), (34, .bool true)]))
    (hK : ∀ (a' : Act), Has a' (base X [(20, .pointer (some ⟨bt, 0, none⟩)), (22, .slice (some ⟨h, 0, none⟩) X.m X.m), (32, .int .i64 (c : Int)), (33, .int .i64 (j : Int))]) → Q (.exit 11) a' w) :
    Code.wp Try.prog (nthC 3 (in6 Try.f4)) (Exit.then Kc Q) a w := by
  have HK : Hid (∀ (a' : Act), Has a' (base X [(20, .pointer (some ⟨bt, 0, none⟩)), (22, .slice (some ⟨h, 0, none⟩) X.m X.m), (32, .int .i64 (c : Int)), (33, .int .i64 (j : Int))]) → Q (.exit 11) a' w) := hK
  obtain ⟨x, rfl, hx⟩ := hH.open
  simp only [base, List.forall_mem_cons, List.not_mem_nil, false_imp_iff, implies_true, and_true] at hx
  obtain ⟨e0, e1, e2, e3, e4, e5, e6, e7, e20, e22, e32, e33, e34⟩ := hx
  unfold Fr
  simp only [e0, e1, e2, e3, e4, e5, e6, e7, e20, e22, e32, e33, e34]
  clear e0 e1 e2 e3 e4 e5 e6 e7 e20 e22 e32 e33 e34 hH hK
  conv => arg 2; whnf
  go_wp2_with fail
  refine HK.out _ ⟨rfl, rfl, ?_⟩
  simp only [base, List.forall_mem_cons, List.not_mem_nil, false_imp_iff, implies_true, and_true]
  exact ⟨rfl, rfl, rfl, rfl, rfl, rfl, rfl, rfl, rfl, rfl, rfl, rfl⟩

set_option maxHeartbeats 4000000 in
theorem c3f (X : Ctx) (w : World) (a : Act) (bt h j c : Nat) (Q : Exit → Act → World → Prop) (Kc : Act → World → Prop) (hH : Has a (base X [(20, .pointer (some ⟨bt, 0, none⟩)), (22, .slice (some ⟨h, 0, none⟩) X.m X.m), (32, .int .i64 (c : Int)), (33, .int .i64 (j : Int)), (34, .bool false)]))
    (hK : ∀ (a' : Act), Has a' (base X [(20, .pointer (some ⟨bt, 0, none⟩)), (22, .slice (some ⟨h, 0, none⟩) X.m X.m), (32, .int .i64 (c : Int)), (33, .int .i64 (j : Int))]) → Kc a' w) :
    Code.wp Try.prog (nthC 3 (in6 Try.f4)) (Exit.then Kc Q) a w := by
  have HK : Hid (∀ (a' : Act), Has a' (base X [(20, .pointer (some ⟨bt, 0, none⟩)), (22, .slice (some ⟨h, 0, none⟩) X.m X.m), (32, .int .i64 (c : Int)), (33, .int .i64 (j : Int))]) → Kc a' w) := hK
  obtain ⟨x, rfl, hx⟩ := hH.open
  simp only [base, List.forall_mem_cons, List.not_mem_nil, false_imp_iff, implies_true, and_true] at hx
  obtain ⟨e0, e1, e2, e3, e4, e5, e6, e7, e20, e22, e32, e33, e34⟩ := hx
  unfold Fr
  simp only [e0, e1, e2, e3, e4, e5, e6, e7, e20, e22, e32, e33, e34]
  clear e0 e1 e2 e3 e4 e5 e6 e7 e20 e22 e32 e33 e34 hH hK
  conv => arg 2; whnf
  go_wp2_with fail
  refine HK.out _ ⟨rfl, rfl, ?_⟩
  simp only [base, List.forall_mem_cons, List.not_mem_nil, false_imp_iff, implies_true, and_true]
  exact ⟨rfl, rfl, rfl, rfl, rfl, rfl, rfl, rfl, rfl, rfl, rfl, rfl⟩

set_option maxHeartbeats 4000000 in
theorem c4 (X : Ctx) (w : World) (a : Act) (bt h j c : Nat) (Q : Exit → Act → World → Prop) (Kc : Act → World → Prop) (hc : c ≤ 512) (hH : Has a (base X [(20, .pointer (some ⟨bt, 0, none⟩)), (22, .slice (some ⟨h, 0, none⟩) X.m X.m), (32, .int .i64 (c : Int)), (33, .int .i64 (j : Int))]))
    (hK : ∀ (a' : Act), Has a' (base X [(20, .pointer (some ⟨bt, 0, none⟩)), (22, .slice (some ⟨h, 0, none⟩) X.m X.m), (32, .int .i64 ((c + 1 : Nat) : Int)), (33, .int .i64 (j : Int))]) → Kc a' w) :
    Code.wp Try.prog (nthC 4 (in6 Try.f4)) (Exit.then Kc Q) a w := by
  have HK : Hid (∀ (a' : Act), Has a' (base X [(20, .pointer (some ⟨bt, 0, none⟩)), (22, .slice (some ⟨h, 0, none⟩) X.m X.m), (32, .int .i64 ((c + 1 : Nat) : Int)), (33, .int .i64 (j : Int))]) → Kc a' w) := hK
  obtain ⟨x, rfl, hx⟩ := hH.open
  simp only [base, List.forall_mem_cons, List.not_mem_nil, false_imp_iff, implies_true, and_true] at hx
  obtain ⟨e0, e1, e2, e3, e4, e5, e6, e7, e20, e22, e32, e33⟩ := hx
  unfold Fr
  simp only [e0, e1, e2, e3, e4, e5, e6, e7, e20, e22, e32, e33]
  clear e0 e1 e2 e3 e4 e5 e6 e7 e20 e22 e32 e33 hH hK
  conv => arg 2; whnf
  go_wp2_with fail
  refine HK.out _ ⟨rfl, rfl, ?_⟩
  simp only [base, List.forall_mem_cons, List.not_mem_nil, false_imp_iff, implies_true, and_true]
  exact ⟨rfl, rfl, rfl, rfl, rfl, rfl, rfl, rfl, rfl, rfl, rfl, rfl⟩

set_option maxHeartbeats 4000000 in
theorem c0t (X : Ctx) (w : World) (a : Act) (bt h j c : Nat) (ix : Int) (Q : Exit → Act → World → Prop) (Kc : Act → World → Prop) (hj : j < X.m) (hix : w.cell? ⟨h, j, none⟩ = some (.int .i64 ix)) (hs : 0 ≤ ix) (hH : Has a (base X [(20, .pointer (some ⟨bt, 0, none⟩)), (22, .slice (some ⟨h, 0, none⟩) X.m X.m), (32, .int .i64 (c : Int)), (33, .int .i64 (j : Int))]))
    (hK : ∀ (a' : Act), Has a' (base X [(20, .pointer (some ⟨bt, 0, none⟩)), (22, .slice (some ⟨h, 0, none⟩) X.m X.m), (32, .int .i64 (c : Int)), (33, .int .i64 (j : Int))]) → Q (.exit 11) a' w) :
    Code.wp Try.prog (nthC 0 (in6 Try.f4)) (Exit.then Kc Q) a w := by
  have HK : Hid (∀ (a' : Act), Has a' (base X [(20, .pointer (some ⟨bt, 0, none⟩)), (22, .slice (some ⟨h, 0, none⟩) X.m X.m), (32, .int .i64 (c : Int)), (33, .int .i64 (j : Int))]) → Q (.exit 11) a' w) := hK
  obtain ⟨x, rfl, hx⟩ := hH.open
  simp only [base, List.forall_mem_cons, List.not_mem_nil, false_imp_iff, implies_true, and_true] at hx
  obtain ⟨e0, e1, e2, e3, e4, e5, e6, e7, e20, e22, e32, e33⟩ := hx
  unfold Fr
  simp only [e0, e1, e2, e3, e4, e5, e6, e7, e20, e22, e32, e33]
  clear e0 e1 e2 e3 e4 e5 e6 e7 e20 e22 e32 e33 hH hK
  conv => arg 2; whnf
  go_wp2_with fail
  refine HK.out _ ⟨rfl, rfl, ?_⟩
  simp only [base, List.forall_mem_cons, List.not_mem_nil, false_imp_iff, implies_true, and_true]
  exact ⟨rfl, rfl, rfl, rfl, rfl, rfl, rfl, rfl, rfl, rfl, rfl, rfl⟩

set_option maxHeartbeats 4000000 in
theorem c0f (X : Ctx) (w : World) (a : Act) (bt h j c : Nat) (ix : Int) (Q : Exit → Act → World → Prop) (Kc : Act → World → Prop) (hj : j < X.m) (hix : w.cell? ⟨h, j, none⟩ = some (.int .i64 ix)) (hs : ix < 0) (hH : Has a (base X [(20, .pointer (some ⟨bt, 0, none⟩)), (22, .slice (some ⟨h, 0, none⟩) X.m X.m), (32, .int .i64 (c : Int)), (33, .int .i64 (j : Int))]))
    (hK : ∀ (a' : Act), Has a' (base X [(20, .pointer (some ⟨bt, 0, none⟩)), (22, .slice (some ⟨h, 0, none⟩) X.m X.m), (32, .int .i64 (c : Int)), (33, .int .i64 (j : Int))]) → Kc a' w) :
    Code.wp Try.prog (nthC 0 (in6 Try.f4)) (Exit.then Kc Q) a w := by
  have HK : Hid (∀ (a' : Act), Has a' (base X [(20, .pointer (some ⟨bt, 0, none⟩)), (22, .slice (some ⟨h, 0, none⟩) X.m X.m), (32, .int .i64 (c : Int)), (33, .int .i64 (j : Int))]) → Kc a' w) := hK
  obtain ⟨x, rfl, hx⟩ := hH.open
  simp only [base, List.forall_mem_cons, List.not_mem_nil, false_imp_iff, implies_true, and_true] at hx
  obtain ⟨e0, e1, e2, e3, e4, e5, e6, e7, e20, e22, e32, e33⟩ := hx
  unfold Fr
  simp only [e0, e1, e2, e3, e4, e5, e6, e7, e20, e22, e32, e33]
  clear e0 e1 e2 e3 e4 e5 e6 e7 e20 e22 e32 e33 hH hK
  conv => arg 2; whnf
  go_wp2_with fail
  refine HK.out _ ⟨rfl, rfl, ?_⟩
  simp only [base, List.forall_mem_cons, List.not_mem_nil, false_imp_iff, implies_true, and_true]
  exact ⟨rfl, rfl, rfl, rfl, rfl, rfl, rfl, rfl, rfl, rfl, rfl, rfl⟩

theorem not_mem_drop {Z : SC} {j : Nat} {y : List UInt8} (h : ∀ (x : Nat) (z' : List UInt8 × VR), j < x → Z[x]? = some z' → z'.1 ≠ y) : y ∉ (Z.drop (j + 1)).map Prod.fst := fun hm => by
  obtain ⟨z', hz', e⟩ := List.mem_map.1 hm
  obtain ⟨x, hx, hxz⟩ := mem_drop Z j z' hz'
  exact h x z' hx hxz e
theorem mem_drop' {Z : SC} {j x : Nat} {z' : List UInt8 × VR} (hx : j < x) (hz : Z[x]? = some z') : z'.1 ∈ (Z.drop (j + 1)).map Prod.fst := by
  refine List.mem_map.2 ⟨z', List.mem_iff_getElem?.2 ⟨x - (j + 1), ?_⟩, rfl⟩
  rw [List.getElem?_drop]
  have : j + 1 + (x - (j + 1)) = x := by omega
  rw [this]; exact hz
set_option maxHeartbeats 8000000 in
theorem c2 (X : Ctx) (w0 w : World) (a : Act) (bt g h j c : Nat) (Rs : List RW) (Z : SC) (z : List UInt8 × VR) (Q : Exit → Act → World → Prop) (Kc : Act → World → Prop) (hi0 : Inp X w0) (hS : St X w0 w bt g h Rs Z) (hj : j < X.m) (hz : Z[j]? = some z)
    (hH : Has a (base X [(20, .pointer (some ⟨bt, 0, none⟩)), (22, .slice (some ⟨h, 0, none⟩) X.m X.m), (32, .int .i64 (c : Int)), (33, .int .i64 (j : Int)), (34, .bool false)]))
    (hK : ∀ (a' : Act) (w' : World) (lt : Bool), Has a' (base X [(20, .pointer (some ⟨bt, 0, none⟩)), (22, .slice (some ⟨h, 0, none⟩) X.m X.m), (32, .int .i64 (c : Int)), (33, .int .i64 (j : Int)), (34, .bool lt)]) → St X w0 w' bt g h Rs Z → lt = decide (z.1 ∈ (Z.drop (j + 1)).map Prod.fst) → Kc a' w') :
    Code.wp Try.prog (nthC 2 (in6 Try.f4)) (Exit.then Kc Q) a w := by
  have HK : Hid (∀ (a' : Act) (w' : World) (lt : Bool), Has a' (base X [(20, .pointer (some ⟨bt, 0, none⟩)), (22, .slice (some ⟨h, 0, none⟩) X.m X.m), (32, .int .i64 (c : Int)), (33, .int .i64 (j : Int)), (34, .bool lt)]) → St X w0 w' bt g h Rs Z → lt = decide (z.1 ∈ (Z.drop (j + 1)).map Prod.fst) → Kc a' w') := hK
  have HI : Hid (Inp X w0) := hi0
  have HS : Hid (St X w0 w bt g h Rs Z) := hS
  have HZ : Hid (Z[j]? = some z) := hz
  have hm := hi0.hm
  obtain ⟨x, rfl, hx⟩ := hH.open
  simp only [base, List.forall_mem_cons, List.not_mem_nil, false_imp_iff, implies_true, and_true] at hx
  obtain ⟨e0, e1, e2, e3, e4, e5, e6, e7, e20, e22, e32, e33, e34⟩ := hx
  unfold Fr
  simp only [e0, e1, e2, e3, e4, e5, e6, e7, e20, e22, e32, e33, e34]
  clear e0 e1 e2 e3 e4 e5 e6 e7 e20 e22 e32 e33 e34 hH hK hS hi0 hz
  conv => arg 2; whnf
  go_wp2_with fail
  refine wp_loop (fun a w' => ∃ k : Nat, j + 1 ≤ k ∧ k ≤ X.m ∧ Has a (base X [(20, .pointer (some ⟨bt, 0, none⟩)), (22, .slice (some ⟨h, 0, none⟩) X.m X.m), (32, .int .i64 (c : Int)), (33, .int .i64 (j : Int)), (34, .bool false), (35, .int .i64 (k : Int))]) ∧ St X w0 w' bt g h Rs Z ∧ ∀ (x : Nat) (z' : List UInt8 × VR), j < x → x < k → Z[x]? = some z' → z'.1 ≠ z.1) (mu 35 X.m) ?_ ?_
  · refine ⟨j + 1, Nat.le_refl _, hj, ⟨rfl, rfl, ?_⟩, HS.out, fun x z' hx hx' => by omega⟩
    simp only [base, List.forall_mem_cons, List.not_mem_nil, false_imp_iff, implies_true, and_true]
    exact ⟨rfl, rfl, rfl, rfl, rfl, rfl, rfl, rfl, rfl, rfl, rfl, rfl, rfl, rfl⟩
  · rintro a wr ⟨k, hk0, hk1, hH, hS, h7⟩
    have HS : Hid (St X w0 wr bt g h Rs Z) := hS
    have H7 : Hid (∀ (x : Nat) (z' : List UInt8 × VR), j < x → x < k → Z[x]? = some z' → z'.1 ≠ z.1) := h7
    obtain ⟨x, rfl, hx⟩ := hH.open
    simp only [base, List.forall_mem_cons, List.not_mem_nil, false_imp_iff, implies_true, and_true] at hx
    obtain ⟨e0, e1, e2, e3, e4, e5, e6, e7, e20, e22, e32, e33, e34, e35⟩ := hx
    unfold Fr
    simp only [e0, e1, e2, e3, e4, e5, e6, e7, e20, e22, e32, e33, e34, e35]
    clear e0 e1 e2 e3 e4 e5 e6 e7 e20 e22 e32 e33 e34 e35 hH h7 hS
    by_cases hlt : k < X.m
    · obtain ⟨bk, ok, tk, pk, eK, cK, iK, qK⟩ := HI.out.atSK k hlt
      obtain ⟨bj, oj, tj, pj, eJ, cJ, iJ, qJ⟩ := HI.out.atSK j hj
      rw [eK] at eJ
      injection eJ with eJ
      injection eJ with e1 e2 e3
      subst e1
      subst e2
      rw [← HS.out.af.below.cell (cell_lt cK)] at cK
      rw [← HS.out.af.below.cell (cell_lt cJ)] at cJ
      replace iK := iK.keep (Keeps.of_below HS.out.af.below)
      replace iJ := iJ.keep (Keeps.of_below HS.out.af.below)
      have hkz : k < Z.length := by rw [HS.out.zl]; exact hlt
      obtain ⟨zk, hzk⟩ : ∃ zk, Z[k]? = some zk := ⟨_, List.getElem?_eq_getElem hkz⟩
      have h1 : zk.1 = byL pk := by
        obtain ⟨k1, v1, x1, x2, _⟩ := HS.out.af.sc k zk hzk
        rw [qK] at x1
        rw [x2, Option.some.inj x1]
      have h2 : z.1 = byL pj := by
        obtain ⟨k1, v1, x1, x2, _⟩ := HS.out.af.sc j z HZ.out
        rw [qJ] at x1
        rw [x2, Option.some.inj x1]
      obtain ⟨v, hv⟩ : ∃ v, cmpL (byL pk) (byL pj) = v := ⟨_, rfl⟩
      have HC : Hid (∀ n, Calls Try.prog 22 #[.slice tk.a tk.n tk.c, .slice tj.a tj.n tj.c] (wr.drewN n) fun e w' => e = .returned (.int .i64 v) ∧ ∃ m, w' = (wr.drewN n).drewN m) := fun n => zzcmp_v tk tj pk pj v _ iK iJ hv
      have E : Hid (X.a4 = some ⟨bk, ok, none⟩) := eK
      have HE : Hid (v = 0 ↔ zk.1 = z.1) := by rw [h1, h2, ← hv]; exact cmpL_eq _ _
      have HZK : Hid (Z[k]? = some zk) := hzk
      clear iK iJ hzk h1 h2 hv qK qJ hkz e3
      rw [eK]
      clear eK
      by_cases hv0 : v = 0
      · subst hv0
        go_wp2_with fail
        go_quiet ((go_at_call 22; with_reducible exact Calls.quiet_of (HC.out _)))
        go_wp2_with fail
        refine HK.out _ _ true ⟨rfl, rfl, ?_⟩ (HS.out.later (Below.drewN' _ _)) ?_
        · simp only [base, List.forall_mem_cons, List.not_mem_nil, false_imp_iff, implies_true, and_true]
          rw [E.out]
          exact ⟨rfl, rfl, rfl, rfl, rfl, rfl, rfl, rfl, rfl, rfl, rfl, rfl, rfl⟩
        · rw [← HE.out.1 (by simp)]
          exact (decide_eq_true (mem_drop' (by omega) HZK.out)).symm
      · have hvb : (v == 0) = false := by simpa using hv0
        have HN : Hid (zk.1 ≠ z.1) := fun e => hv0 (HE.out.2 e)
        go_wp2_with fail
        go_quiet ((go_at_call 22; with_reducible exact Calls.quiet_of (HC.out _)))
        go_wp2_with fail
        refine ⟨⟨k + 1, by omega, by omega, ⟨rfl, rfl, ?_⟩, HS.out.later (Below.drewN' _ _), fun x z' hx hx' hz' => ?_⟩, ?_⟩
        · simp only [base, List.forall_mem_cons, List.not_mem_nil, false_imp_iff, implies_true, and_true]
          rw [E.out]
          exact ⟨rfl, rfl, rfl, rfl, rfl, rfl, rfl, rfl, rfl, rfl, rfl, rfl, rfl, rfl⟩
        · by_cases e : x = k
          · subst e
            have h8 := HZK.out
            rw [hz'] at h8
            rw [Option.some.inj h8]; exact HN.out
          · exact H7.out x z' hx (by omega) hz'
        · show X.m - ((k : Int) + 1).toNat < X.m - ((k : Int)).toNat
          omega
    · go_wp2_with fail
      refine HK.out _ _ false ⟨rfl, rfl, ?_⟩ HS.out ?_
      · simp only [base, List.forall_mem_cons, List.not_mem_nil, false_imp_iff, implies_true, and_true]
        exact ⟨rfl, rfl, rfl, rfl, rfl, rfl, rfl, rfl, rfl, rfl, rfl, rfl, rfl⟩
      · refine (decide_eq_false (not_mem_drop fun x z' hx hz' => H7.out x z' hx ?_ hz')).symm
        have := (List.getElem?_eq_some_iff.1 hz').1
        rw [HS.out.zl] at this
        omega

set_option maxHeartbeats 8000000 in
theorem c5 (X : Ctx) (w0 w : World) (a : Act) (bt g h j c : Nat) (Rs : List RW) (Z : SC) (z : List UInt8 × VR) (Q : Exit → Act → World → Prop) (Kc : Act → World → Prop) (hi0 : Inp X w0) (hS : St X w0 w bt g h Rs Z) (hj : j < X.m) (hz : Z[j]? = some z)
    (hl : look (foldM (X.K.map byL) Z []) z.1 = some z.2)
    (hH : Has a (base X [(20, .pointer (some ⟨bt, 0, none⟩)), (22, .slice (some ⟨h, 0, none⟩) X.m X.m), (32, .int .i64 (c : Int)), (33, .int .i64 (j : Int))]))
    (hK : ∀ (a' : Act) (w' : World) (bx : Nat), Has a' (base X [(20, .pointer (some ⟨bt, 0, none⟩)), (22, .slice (some ⟨h, 0, none⟩) X.m X.m), (32, .int .i64 (c : Int)), (33, .int .i64 (j : Int)), (36, .pointer (some ⟨bx, 0, none⟩)), (37, .bool true)]) → St X w0 w' bt g h Rs Z → w'.heap[bx]? = some (.cells #[.slice z.2.v.a z.2.v.n z.2.v.c, .int .u64 z.2.t, .bool z.2.d] 39 (0, 0)) → Kc a' w') :
    Code.wp Try.prog (nthC 5 (in6 Try.f4)) (Exit.then Kc Q) a w := by
  obtain ⟨bk, ok, tk, pk, eK, cK, iK, qK⟩ := hi0.atSK j hj
  rw [← hS.af.below.cell (cell_lt cK)] at cK
  replace iK := iK.keep (Keeps.of_below hS.af.below)
  have h1 : z.1 = byL pk := by
    obtain ⟨k1, v1, x1, x2, _⟩ := hS.af.sc j z hz
    rw [qK] at x1
    rw [x2, Option.some.inj x1]
  obtain ⟨mv, hT⟩ := hS.af.ts
  have hg := get20 hT (byL pk)
  have hcv := conv_key tk.a tk.c (byL pk) w iK.2.2
  rw [← iK.1] at hcv
  have hgv : getV (foldM (X.K.map byL) Z []) (byL pk) = z.2 := by rw [← h1]; unfold getV; rw [hl]; rfl
  have hls : (look (foldM (X.K.map byL) Z []) (byL pk)).isSome = true := by rw [← h1, hl]; rfl
  rw [hgv, hls] at hg
  have HC : Hid (∀ R : Ending → World → Prop, (∀ w', Below w.heap.size w w' → R (.returned (.tuple #[.agg #[.slice z.2.v.a z.2.v.n z.2.v.c, .int .u64 z.2.t, .bool z.2.d], .bool true])) w') → Calls Try.prog 20 #[.pointer (some ⟨bt, 0, none⟩), .string (sb (byL pk))] w R) := fun R hR => hg.mono (by rintro e w' ⟨rfl, hb⟩; exact hR w' hb)
  have HK : Hid (∀ (a' : Act) (w' : World) (bx : Nat), Has a' (base X [(20, .pointer (some ⟨bt, 0, none⟩)), (22, .slice (some ⟨h, 0, none⟩) X.m X.m), (32, .int .i64 (c : Int)), (33, .int .i64 (j : Int)), (36, .pointer (some ⟨bx, 0, none⟩)), (37, .bool true)]) → St X w0 w' bt g h Rs Z → w'.heap[bx]? = some (.cells #[.slice z.2.v.a z.2.v.n z.2.v.c, .int .u64 z.2.t, .bool z.2.d] 39 (0, 0)) → Kc a' w') := hK
  have HS : Hid (St X w0 w bt g h Rs Z) := hS
  have E : Hid (X.a4 = some ⟨bk, ok, none⟩) := eK
  have hm := hi0.hm
  obtain ⟨x, rfl, hx⟩ := hH.open
  simp only [base, List.forall_mem_cons, List.not_mem_nil, false_imp_iff, implies_true, and_true] at hx
  obtain ⟨e0, e1, e2, e3, e4, e5, e6, e7, e20, e22, e32, e33⟩ := hx
  unfold Fr
  simp only [e0, e1, e2, e3, e4, e5, e6, e7, e20, e22, e32, e33]
  clear e0 e1 e2 e3 e4 e5 e6 e7 e20 e22 e32 e33 hH hK hS hi0 hz hl hg hgv hls hT h1 iK qK
  rw [eK]
  clear eK
  generalize sb (byL pk) = key at hcv HC
  conv => arg 2; whnf
  go_wp2_with fail
  refine HC.out _ ?_
  intro w1 hb1
  have HB1 : Hid (Below w.heap.size w w1) := hb1
  clear hb1 hcv cK
  go_wp2_with fail
  refine HK.out _ _ w1.heap.size ⟨rfl, rfl, ?_⟩ (HS.out.later (HB1.out.trans ((Below.refl w1.heap.size w1).alloc (Nat.le_refl _) _ |>.mono HB1.out.size))) (heap_alloc_new _ _)
  simp only [base, List.forall_mem_cons, List.not_mem_nil, false_imp_iff, implies_true, and_true]
  rw [E.out]
  exact ⟨rfl, rfl, rfl, rfl, rfl, rfl, rfl, rfl, rfl, rfl, rfl, rfl, rfl, rfl⟩


set_option maxHeartbeats 8000000 in
theorem c6 (X : Ctx) (w0 w : World) (a : Act) (bt g h j c bx : Nat) (Rs : List RW) (Z : SC) (z : List UInt8 × VR) (Q : Exit → Act → World → Prop) (Kc : Act → World → Prop) (hi0 : Inp X w0) (hS : St X w0 w bt g h Rs Z) (hj : j < X.m) (hz : Z[j]? = some z)
    (hbx : w.heap[bx]? = some (.cells #[.slice z.2.v.a z.2.v.n z.2.v.c, .int .u64 z.2.t, .bool z.2.d] 39 (0, 0)))
    (hH : Has a (base X [(20, .pointer (some ⟨bt, 0, none⟩)), (22, .slice (some ⟨h, 0, none⟩) X.m X.m), (32, .int .i64 (c : Int)), (33, .int .i64 (j : Int)), (36, .pointer (some ⟨bx, 0, none⟩)), (37, .bool true)]))
    (hK : ∀ (a' : Act) (n : Nat), Has a' (base X [(20, .pointer (some ⟨bt, 0, none⟩)), (22, .slice (some ⟨h, 0, none⟩) X.m X.m), (32, .int .i64 (c : Int)), (33, .int .i64 (j : Int))]) → Kc a' (w.drewN n)) :
    Code.wp Try.prog (restC 6 (in6 Try.f4)) (Exit.then Kc Q) a w := by
  obtain ⟨bv, ov, tv, pv, eV, cV, iV, qV⟩ := hi0.atSV j hj
  obtain ⟨bs, os, ts, eS, cS, qS⟩ := hi0.atS j hj
  obtain ⟨bd, od, td, eD, cD, qD⟩ := hi0.atD j hj
  have hbw := hS.af.below
  rw [← hbw.cell (cell_lt cV)] at cV
  rw [← hbw.cell (cell_lt cS)] at cS
  rw [← hbw.cell (cell_lt cD)] at cD
  replace iV := iV.keep (Keeps.of_below hbw)
  obtain ⟨k1, v1, x1, x2, x3, x4, x5, x6⟩ := hS.af.sc j z hz
  rw [qV] at x3
  rw [qS] at x5
  rw [qD] at x6
  have e1 : v1 = pv := (Option.some.inj x3).symm
  rw [Option.some.inj x5] at cS
  rw [Option.some.inj x6] at cD
  rw [e1] at x4
  have b0 : w.cell? ⟨bx, 0, none⟩ = some (.slice z.2.v.a z.2.v.n z.2.v.c) := by rw [cell_of_row w bx 0 _ 39 (0, 0) hbx]; rfl
  have b1 : w.cell? ⟨bx, 1, none⟩ = some (.int .u64 z.2.t) := by rw [cell_of_row w bx 1 _ 39 (0, 0) hbx]; rfl
  have b2 : w.cell? ⟨bx, 2, none⟩ = some (.bool z.2.d) := by rw [cell_of_row w bx 2 _ 39 (0, 0) hbx]; rfl
  have S1 : Hid (∀ n, Calls Try.prog 15 #[.slice z.2.v.a z.2.v.n z.2.v.c, .slice tv.a tv.n tv.c] (w.drewN n) fun e w' => e = .returned (.bool true) ∧ ∃ m, w' = (w.drewN n).drewN m) := fun n => same_at x4 iV
  have HK : Hid (∀ (a' : Act) (n : Nat), Has a' (base X [(20, .pointer (some ⟨bt, 0, none⟩)), (22, .slice (some ⟨h, 0, none⟩) X.m X.m), (32, .int .i64 (c : Int)), (33, .int .i64 (j : Int))]) → Kc a' (w.drewN n)) := hK
  have E : Hid (X.a5 = some ⟨bv, ov, none⟩ ∧ X.a6 = some ⟨bs, os, none⟩ ∧ X.a7 = some ⟨bd, od, none⟩) := ⟨eV, eS, eD⟩
  have hm := hi0.hm
  clear x1 x2 x3 x4 x5 x6 qV qS qD e1 iV
  generalize z.2.d = zd at cD b2
  generalize z.2.t = zt at cS b1
  obtain ⟨x, rfl, hx⟩ := hH.open
  simp only [base, List.forall_mem_cons, List.not_mem_nil, false_imp_iff, implies_true, and_true] at hx
  obtain ⟨e0, e1, e2, e3, e4, e5, e6, e7, e20, e22, e32, e33, e36, e37⟩ := hx
  unfold Fr
  simp only [e0, e1, e2, e3, e4, e5, e6, e7, e20, e22, e32, e33, e36, e37]
  clear e0 e1 e2 e3 e4 e5 e6 e7 e20 e22 e32 e33 e36 e37 hH hK hS hi0 hz hbx hbw
  rw [eV, eS, eD]
  clear eV eS eD
  conv => arg 2; whnf
  cases zd
  · go_wp2_with fail
    go_quiet ((go_at_call 15; with_reducible exact Calls.quiet_of (S1.out _)))
    go_wp2_with fail
    refine HK.out _ _ ⟨rfl, rfl, ?_⟩
    simp only [base, List.forall_mem_cons, List.not_mem_nil, false_imp_iff, implies_true, and_true]
    rw [E.out.1, E.out.2.1, E.out.2.2]
    exact ⟨rfl, rfl, rfl, rfl, rfl, rfl, rfl, rfl, rfl, rfl, rfl, rfl⟩
  · go_wp2_with fail
    go_quiet ((go_at_call 15; with_reducible exact Calls.quiet_of (S1.out _)))
    go_wp2_with fail
    refine HK.out _ _ ⟨rfl, rfl, ?_⟩
    simp only [base, List.forall_mem_cons, List.not_mem_nil, false_imp_iff, implies_true, and_true]
    rw [E.out.1, E.out.2.1, E.out.2.2]
    exact ⟨rfl, rfl, rfl, rfl, rfl, rfl, rfl, rfl, rfl, rfl, rfl, rfl⟩


theorem cnt_le (KK : List (List UInt8)) : ∀ l : SC, cntF KK l ≤ l.length
  | [] => Nat.le_refl _
  | z :: r => by
    have := cnt_le KK r
    rw [cntF_cons, List.length_cons]
    split <;> omega
set_option maxHeartbeats 4000000 in
theorem round6 (X : Ctx) (w0 w : World) (a : Act) (bt g h j c : Nat) (Rs : List RW) (Z : SC) (Q : Exit → Act → World → Prop) (Kc : Act → World → Prop) (hi0 : Inp X w0) (hS : St X w0 w bt g h Rs Z) (hj : j < X.m)
    (hc : c + cntF (X.K.map byL) (Z.drop j) = cntF (X.K.map byL) Z)
    (hH : Has a (base X [(20, .pointer (some ⟨bt, 0, none⟩)), (22, .slice (some ⟨h, 0, none⟩) X.m X.m), (32, .int .i64 (c : Int)), (33, .int .i64 (j : Int))]))
    (hK : ∀ (a' : Act) (w' : World) (c' : Nat), Has a' (base X [(20, .pointer (some ⟨bt, 0, none⟩)), (22, .slice (some ⟨h, 0, none⟩) X.m X.m), (32, .int .i64 (c' : Int)), (33, .int .i64 ((j + 1 : Nat) : Int))]) → St X w0 w' bt g h Rs Z → c' + cntF (X.K.map byL) (Z.drop (j + 1)) = cntF (X.K.map byL) Z → Kc a' w') :
    Code.wp Try.prog (b6 Try.f4) (Exit.then Kc Q) a w := by
  have hjz : j < Z.length := by rw [hS.zl]; exact hj
  obtain ⟨z, hz⟩ : ∃ z, Z[j]? = some z := ⟨_, List.getElem?_eq_getElem hjz⟩
  have hst := cnt_step (X.K.map byL) Z j z hz
  have hle := cnt_le (X.K.map byL) Z
  have hzl := hS.zl
  have hm := hi0.hm
  have cI := hS.at j z hz
  have inc : ∀ (a' : Act) (w' : World) (c' : Nat), Has a' (base X [(20, .pointer (some ⟨bt, 0, none⟩)), (22, .slice (some ⟨h, 0, none⟩) X.m X.m), (32, .int .i64 (c' : Int)), (33, .int .i64 (j : Int))]) → St X w0 w' bt g h Rs Z → c' + cntF (X.K.map byL) (Z.drop (j + 1)) = cntF (X.K.map byL) Z →
      Code.wp Try.prog (restC 2 (b6 Try.f4)) (Exit.then Kc Q) a' w' := fun a' w' c' h1 h2 h3 =>
    s6inc X w' a' bt h j c' _ _ hj hm h1 fun a2 h4 => hK a2 w' c' h4 h2 h3
  rw [b6_eq]
  refine wp_seq (s6lt X w a bt h j c _ _ hj hH fun a1 h1 => ?_)
  refine wp_seq (wp_block ?_)
  rw [in6_eq]
  by_cases hix : idxL (X.K.map byL) z.1 < 0
  · refine wp_seq (c0f X w a1 bt h j c _ _ _ hj cI hix h1 fun a2 h2 => ?_)
    refine wp_seq (c1 X w a2 bt h j c _ _ h2 fun a3 h3 => ?_)
    refine wp_seq (c2 X w0 w a3 bt g h j c Rs Z z _ _ hi0 hS hj hz h3 fun a4 w4 lt h4 hS4 hlt => ?_)
    cases lt with
    | true =>
      have hmem : z.1 ∈ (Z.drop (j + 1)).map Prod.fst := of_decide_eq_true hlt.symm
      rw [if_neg (fun hh => hh.2 hmem)] at hst
      refine wp_seq (c3t X w4 a4 bt h j c _ _ h4 fun a5 h5 => ?_)
      exact inc a5 w4 c h5 hS4 (by omega)
    | false =>
      have hmem : z.1 ∉ (Z.drop (j + 1)).map Prod.fst := of_decide_eq_false hlt.symm
      rw [if_pos ⟨hix, hmem⟩] at hst
      refine wp_seq (c3f X w4 a4 bt h j c _ _ h4 fun a5 h5 => ?_)
      refine wp_seq (c4 X w4 a5 bt h j c _ _ (by omega) h5 fun a6 h6 => ?_)
      refine wp_seq (c5 X w0 w4 a6 bt g h j (c + 1) Rs Z z _ _ hi0 hS4 hj hz (law_look _ Z j z hz hix hmem) h6 fun a7 w7 bx h7 hS7 hbx => ?_)
      refine Code.wp_mono ?_ (c6 X w0 w7 a7 bt g h j (c + 1) bx Rs Z z (fun _ _ _ => False) (fun a' w' => ∃ n, w' = w7.drewN n ∧ Has a' (base X [(20, .pointer (some ⟨bt, 0, none⟩)), (22, .slice (some ⟨h, 0, none⟩) X.m X.m), (32, .int .i64 ((c + 1 : Nat) : Int)), (33, .int .i64 (j : Int))])) hi0 hS7 hj hz hbx h7 fun a8 n h8 => ⟨n, rfl, h8⟩)
      intro e a8 w8 q
      cases e with
      | normal =>
        obtain ⟨n, rfl, h8⟩ := q
        exact inc a8 _ (c + 1) h8 (hS7.later (Below.drewN' _ _)) (by omega)
      | exit id => exact q.elim
      | goto l => exact q.elim
      | ret => exact q.elim
      | panic c => exact q.elim
      | outgrown => exact q.elim
  · rw [if_neg (fun hh => hix hh.1)] at hst
    refine wp_seq (c0t X w a1 bt h j c _ _ _ hj cI (by omega) h1 fun a2 h2 => ?_)
    exact inc a2 w c h2 hS (by omega)

theorem seg28 (X : Ctx) (w0 w : World) (a : Act) (bt g h : Nat) (Rs : List RW) (Z : SC) (Q : Exit → Act → World → Prop) (Kc : Act → World → Prop) (hi0 : Inp X w0) (hS : St X w0 w bt g h Rs Z)
    (hH : Has a (base X [(20, .pointer (some ⟨bt, 0, none⟩)), (22, .slice (some ⟨h, 0, none⟩) X.m X.m), (32, .int .i64 ((0 : Nat) : Int))]))
    (hK : ∀ (a' : Act) (w' : World), Has a' (base X [(20, .pointer (some ⟨bt, 0, none⟩)), (22, .slice (some ⟨h, 0, none⟩) X.m X.m), (32, .int .i64 ((foldM (X.K.map byL) Z []).length : Int))]) → St X w0 w' bt g h Rs Z → Kc a' w') :
    Code.wp Try.prog (seg Try.f4 28) (Exit.then Kc Q) a w := by
  rw [seg28_eq]
  refine wp_seq (s28a X w a bt h 0 _ _ hH fun a1 h1 => wp_block ?_)
  refine wp_loop (fun a w => ∃ j c : Nat, j ≤ X.m ∧ Has a (base X [(20, .pointer (some ⟨bt, 0, none⟩)), (22, .slice (some ⟨h, 0, none⟩) X.m X.m), (32, .int .i64 (c : Int)), (33, .int .i64 (j : Int))]) ∧ St X w0 w bt g h Rs Z ∧ c + cntF (X.K.map byL) (Z.drop j) = cntF (X.K.map byL) Z) (mu 33 X.m) ⟨0, 0, Nat.zero_le _, h1, hS, by simp⟩ ?_
  rintro a2 w2 ⟨j, c, hjn, h2, hS2, hc⟩
  by_cases hlt : j < X.m
  · refine round6 X w0 w2 a2 bt g h j c Rs Z _ _ hi0 hS2 hlt hc h2 fun a3 w3 c' h3 hS3 hc' => ⟨⟨j + 1, c', hlt, h3, hS3, hc'⟩, ?_⟩
    rw [mu_has (i := j + 1) _ h3 (by simp [base]), mu_has (i := j) _ h2 (by simp [base])]
    omega
  · rw [b6_eq]
    refine wp_seq (s6ge X w2 a2 bt h j c _ _ hlt h2 fun a3 h3 => ?_)
    have hcc : (foldM (X.K.map byL) Z []).length = c := by
      rw [law_len, ← hc]
      have : Z.drop j = [] := by
        apply List.drop_eq_nil_of_le
        rw [hS2.zl]; omega
      rw [this]; rfl
    refine hK a3 w2 ?_ hS2
    rw [hcc]; exact h3
end Go.Proofs.Qxb6617343a
