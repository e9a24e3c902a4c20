import Derived.Test.Qxb6617343aSegH
import Derived.Test.Qxb6617343aSegG
namespace Go.Proofs.Qxb6617343a
open Go.RowKit
set_option maxRecDepth 100000
/-- a slice of bytes that came in: its bytes, its length not yet bounded -/
def RawV (w : World) (t : SL) (o : OB) : Prop := t.n = (byL o).length ∧ (t.a = none ↔ o = none) ∧ (0 < (byL o).length → ∃ b off, t.a = some ⟨b, off, none⟩ ∧ ∀ (i : Nat) (h : i < (byL o).length), w.cell? ⟨b, off + i, none⟩ = some (.int .u8 ((byL o)[i].toNat : Int)))
theorem RawV.isV {w : World} {t : SL} {o : OB} (h : RawV w t o) (hn : t.n ≤ 1048576) : IsV w t o := ⟨h.1, h.2.1, by rw [← h.1]; exact hn, h.2.2⟩
/-- what the call was given, before anything is tested -/
structure Inp0 (X : Ctx) (w : World) : Prop where
  k : OAt w X.a0 X.T1
  v : OAt w X.a1 X.T2
  sk : OAt w X.a4 X.T3
  sv : OAt w X.a5 X.T4
  u : CAt w X.a2 (X.U.map (Value.int .u64))
  s : CAt w X.a6 (X.S.map (Value.int .u64))
  dd : CAt w X.a7 (X.D.map Value.bool)
  ik : ∀ (i : Nat) (h : i < X.T1.length) (h' : i < X.K.length), RawV w X.T1[i] X.K[i]
  iv : ∀ (i : Nat) (h : i < X.T2.length) (h' : i < X.V.length), RawV w X.T2[i] X.V[i]
  isk : ∀ (i : Nat) (h : i < X.T3.length) (h' : i < X.SK.length), RawV w X.T3[i] X.SK[i]
  isv : ∀ (i : Nat) (h : i < X.T4.length) (h' : i < X.SV.length), RawV w X.T4[i] X.SV[i]
  m1 : ∀ (i : Nat) (h : i < X.T1.length), X.T1[i].n ≤ maxLen
  m2 : ∀ (i : Nat) (h : i < X.T2.length), X.T2[i].n ≤ maxLen
  m3 : ∀ (i : Nat) (h : i < X.T3.length), X.T3[i].n ≤ maxLen
  m4 : ∀ (i : Nat) (h : i < X.T4.length), X.T4[i].n ≤ maxLen
  n1 : X.T1.length = X.n
  n3 : X.T3.length = X.m
  lK : X.K.length = X.T1.length
  lV : X.V.length = X.T2.length
  lSK : X.SK.length = X.T3.length
  lSV : X.SV.length = X.T4.length
  mU : X.U.length ≤ maxLen
  mS : X.S.length ≤ maxLen
  mD : X.D.length ≤ maxLen
theorem bne_nat {a b : Nat} (h : ((a : Int) != (b : Int)) = false) : a = b := by
  have : (a : Int) = (b : Int) := by simpa using h
  omega
def baseA (X : Ctx) (L : List (Nat × Value)) : List (Nat × Value) :=
  (0, .slice X.a0 X.n X.c0) :: (1, .slice X.a1 X.T2.length X.c1) :: (2, .slice X.a2 X.U.length X.c2) :: (3, .bool X.d) :: (4, .slice X.a4 X.m X.c4) :: (5, .slice X.a5 X.T4.length X.c5) :: (6, .slice X.a6 X.S.length X.c6) :: (7, .slice X.a7 X.D.length X.c7) :: L

set_option maxHeartbeats 4000000 in
theorem a0 (X : Ctx) (w : World) (a : Act) (Kc : Act → World → Prop) (hH : Has a (baseA X []))
    (hK : ∀ (a' : Act), Has a' (baseA X []) → Kc a' w) :
    Code.wp Try.prog (seg Try.f4 0) (Exit.then Kc (bodyPost Try.prog Try.f4 (PostF w))) a w := by
  have HK : Hid (∀ (a' : Act), Has a' (baseA X []) → Kc a' w) := hK
  obtain ⟨x, rfl, hx⟩ := hH.open
  simp only [baseA, List.forall_mem_cons, List.not_mem_nil, false_imp_iff, implies_true, and_true] at hx
  obtain ⟨e0, e1, e2, e3, e4, e5, e6, e7⟩ := hx
  unfold Fr
  simp only [e0, e1, e2, e3, e4, e5, e6, e7]
  clear e0 e1 e2 e3 e4 e5 e6 e7 hH hK
  conv => arg 2; whnf
  go_wp2_with fail
  refine HK.out _ ⟨rfl, rfl, ?_⟩
  simp only [baseA, List.forall_mem_cons, List.not_mem_nil, false_imp_iff, implies_true, and_true]
  exact ⟨rfl, rfl, rfl, rfl, rfl, rfl, rfl, rfl⟩

set_option maxHeartbeats 4000000 in
theorem a1 (X : Ctx) (w : World) (a : Act) (Kc : Act → World → Prop) (h0 : Inp0 X w) (hH : Has a (baseA X []))
    (hK : ∀ (a' : Act), (Small X.T1 ∧ Small X.T2 ∧ Small X.T3 ∧ Small X.T4) ∧ X.U.length ≤ 1048576 ∧ X.S.length ≤ 1048576 ∧ X.D.length ≤ 1048576 → Has a' (baseA X []) → Kc a' w) :
    Code.wp Try.prog (seg Try.f4 1) (Exit.then Kc (bodyPost Try.prog Try.f4 (PostF w))) a w := by
  have HK : Hid (∀ (a' : Act), (Small X.T1 ∧ Small X.T2 ∧ Small X.T3 ∧ Small X.T4) ∧ X.U.length ≤ 1048576 ∧ X.S.length ≤ 1048576 ∧ X.D.length ≤ 1048576 → Has a' (baseA X []) → Kc a' w) := hK
  have hz := zzbytes21 X.a0 X.a1 X.a2 X.a4 X.a5 X.a6 X.a7 X.c0 X.c1 X.c2 X.c4 X.c5 X.c6 X.c7 X.U.length X.S.length X.D.length X.d X.T1 X.T2 X.T3 X.T4 w h0.k h0.v h0.sk h0.sv h0.m1 h0.m2 h0.m3 h0.m4 h0.mU h0.mS h0.mD
  rw [h0.n1, h0.n3] at hz
  have HZ : Hid (Calls Try.prog 21 #[.slice X.a0 X.n X.c0, .slice X.a1 X.T2.length X.c1, .slice X.a2 X.U.length X.c2, .bool X.d, .slice X.a4 X.m X.c4, .slice X.a5 X.T4.length X.c5, .slice X.a6 X.S.length X.c6, .slice X.a7 X.D.length X.c7] w fun e w' => Z21 X.T1 X.T2 X.T3 X.T4 X.U.length X.S.length X.D.length w e w') := hz
  obtain ⟨x, rfl, hx⟩ := hH.open
  simp only [baseA, List.forall_mem_cons, List.not_mem_nil, false_imp_iff, implies_true, and_true] at hx
  obtain ⟨e0, e1, e2, e3, e4, e5, e6, e7⟩ := hx
  unfold Fr
  simp only [e0, e1, e2, e3, e4, e5, e6, e7]
  clear e0 e1 e2 e3 e4 e5 e6 e7 hH hK h0 hz
  conv => arg 2; whnf
  go_wp2_with fail
  refine HZ.out.mono ?_
  rintro e w' ⟨b, rfl, hw, hb⟩
  obtain rfl : w' = w := hw
  have HB : Hid (b = true → (Small X.T1 ∧ Small X.T2 ∧ Small X.T3 ∧ Small X.T4) ∧ X.U.length ≤ 1048576 ∧ X.S.length ≤ 1048576 ∧ X.D.length ≤ 1048576) := hb
  clear HZ hb
  cases b
  · go_wp2
    go_ret
    exact ⟨rfl, Below.refl _ _⟩
  · go_wp2_with fail
    refine HK.out _ (HB.out (by simp)) ⟨rfl, rfl, ?_⟩
    simp only [baseA, List.forall_mem_cons, List.not_mem_nil, false_imp_iff, implies_true, and_true]
    exact ⟨rfl, rfl, rfl, rfl, rfl, rfl, rfl, rfl⟩

set_option maxHeartbeats 4000000 in
theorem a2 (X : Ctx) (w : World) (a : Act) (Kc : Act → World → Prop) (s0 : X.n ≤ 1048576) (s1 : X.T2.length ≤ 1048576) (s2 : X.U.length ≤ 1048576) (hH : Has a (baseA X []))
    (hK : ∀ (a' : Act), X.n ≤ 4096 ∧ X.T2.length ≤ 4096 ∧ X.U.length ≤ 4096 → Has a' (baseA X []) → Kc a' w) :
    Code.wp Try.prog (seg Try.f4 2) (Exit.then Kc (bodyPost Try.prog Try.f4 (PostF w))) a w := by
  have HK : Hid (∀ (a' : Act), X.n ≤ 4096 ∧ X.T2.length ≤ 4096 ∧ X.U.length ≤ 4096 → Has a' (baseA X []) → Kc a' w) := hK
  obtain ⟨x, rfl, hx⟩ := hH.open
  simp only [baseA, List.forall_mem_cons, List.not_mem_nil, false_imp_iff, implies_true, and_true] at hx
  obtain ⟨e0, e1, e2, e3, e4, e5, e6, e7⟩ := hx
  unfold Fr
  simp only [e0, e1, e2, e3, e4, e5, e6, e7]
  clear e0 e1 e2 e3 e4 e5 e6 e7 hH hK
  conv => arg 2; whnf
  by_cases q0 : X.n ≤ 4096
  · have p0 : decide ((4096 : Int) < (X.n : Int)) = false := by simp; omega
    by_cases q1 : X.T2.length ≤ 4096
    · have p1 : decide ((4096 : Int) < (X.T2.length : Int)) = false := by simp; omega
      by_cases q2 : X.U.length ≤ 4096
      · have p2 : decide ((4096 : Int) < (X.U.length : Int)) = false := by simp; omega
        go_wp2_with fail
        refine HK.out _ ⟨q0, q1, q2⟩ ⟨rfl, rfl, ?_⟩
        simp only [baseA, List.forall_mem_cons, List.not_mem_nil, false_imp_iff, implies_true, and_true]
        exact ⟨rfl, rfl, rfl, rfl, rfl, rfl, rfl, rfl⟩
      · have p2 : decide ((4096 : Int) < (X.U.length : Int)) = true := by simp; omega
        go_wp2_with fail
        go_ret
        exact ⟨rfl, Below.refl _ _⟩
    · have p1 : decide ((4096 : Int) < (X.T2.length : Int)) = true := by simp; omega
      go_wp2_with fail
      go_ret
      exact ⟨rfl, Below.refl _ _⟩
  · have p0 : decide ((4096 : Int) < (X.n : Int)) = true := by simp; omega
    go_wp2_with fail
    go_ret
    exact ⟨rfl, Below.refl _ _⟩

set_option maxHeartbeats 4000000 in
theorem a3 (X : Ctx) (w : World) (a : Act) (Kc : Act → World → Prop) (s0 : X.m ≤ 1048576) (s1 : X.T4.length ≤ 1048576) (s2 : X.S.length ≤ 1048576) (s3 : X.D.length ≤ 1048576) (hH : Has a (baseA X []))
    (hK : ∀ (a' : Act), X.m ≤ 512 ∧ X.T4.length ≤ 512 ∧ X.S.length ≤ 512 ∧ X.D.length ≤ 512 → Has a' (baseA X []) → Kc a' w) :
    Code.wp Try.prog (seg Try.f4 3) (Exit.then Kc (bodyPost Try.prog Try.f4 (PostF w))) a w := by
  have HK : Hid (∀ (a' : Act), X.m ≤ 512 ∧ X.T4.length ≤ 512 ∧ X.S.length ≤ 512 ∧ X.D.length ≤ 512 → Has a' (baseA X []) → Kc a' w) := hK
  obtain ⟨x, rfl, hx⟩ := hH.open
  simp only [baseA, List.forall_mem_cons, List.not_mem_nil, false_imp_iff, implies_true, and_true] at hx
  obtain ⟨e0, e1, e2, e3, e4, e5, e6, e7⟩ := hx
  unfold Fr
  simp only [e0, e1, e2, e3, e4, e5, e6, e7]
  clear e0 e1 e2 e3 e4 e5 e6 e7 hH hK
  conv => arg 2; whnf
  by_cases q0 : X.m ≤ 512
  · have p0 : decide ((512 : Int) < (X.m : Int)) = false := by simp; omega
    by_cases q1 : X.T4.length ≤ 512
    · have p1 : decide ((512 : Int) < (X.T4.length : Int)) = false := by simp; omega
      by_cases q2 : X.S.length ≤ 512
      · have p2 : decide ((512 : Int) < (X.S.length : Int)) = false := by simp; omega
        by_cases q3 : X.D.length ≤ 512
        · have p3 : decide ((512 : Int) < (X.D.length : Int)) = false := by simp; omega
          go_wp2_with fail
          refine HK.out _ ⟨q0, q1, q2, q3⟩ ⟨rfl, rfl, ?_⟩
          simp only [baseA, List.forall_mem_cons, List.not_mem_nil, false_imp_iff, implies_true, and_true]
          exact ⟨rfl, rfl, rfl, rfl, rfl, rfl, rfl, rfl⟩
        · have p3 : decide ((512 : Int) < (X.D.length : Int)) = true := by simp; omega
          go_wp2_with fail
          go_ret
          exact ⟨rfl, Below.refl _ _⟩
      · have p2 : decide ((512 : Int) < (X.S.length : Int)) = true := by simp; omega
        go_wp2_with fail
        go_ret
        exact ⟨rfl, Below.refl _ _⟩
    · have p1 : decide ((512 : Int) < (X.T4.length : Int)) = true := by simp; omega
      go_wp2_with fail
      go_ret
      exact ⟨rfl, Below.refl _ _⟩
  · have p0 : decide ((512 : Int) < (X.m : Int)) = true := by simp; omega
    go_wp2_with fail
    go_ret
    exact ⟨rfl, Below.refl _ _⟩

set_option maxHeartbeats 4000000 in
theorem a4 (X : Ctx) (w : World) (a : Act) (Kc : Act → World → Prop) (s2 : X.U.length ≤ 4096) (s6 : X.S.length ≤ 512) (s7 : X.D.length ≤ 512) (hH : Has a (baseA X []))
    (hK : ∀ (a' : Act) (tot : Int), 0 ≤ tot → tot ≤ 1048577 → Has a' (baseA X [(17, .int .i64 tot)]) → Kc a' w) :
    Code.wp Try.prog (seg Try.f4 4) (Exit.then Kc (bodyPost Try.prog Try.f4 (PostF w))) a w := by
  have HK : Hid (∀ (a' : Act) (tot : Int), 0 ≤ tot → tot ≤ 1048577 → Has a' (baseA X [(17, .int .i64 tot)]) → Kc a' w) := hK
  obtain ⟨x, rfl, hx⟩ := hH.open
  simp only [baseA, List.forall_mem_cons, List.not_mem_nil, false_imp_iff, implies_true, and_true] at hx
  obtain ⟨e0, e1, e2, e3, e4, e5, e6, e7⟩ := hx
  unfold Fr
  simp only [e0, e1, e2, e3, e4, e5, e6, e7]
  clear e0 e1 e2 e3 e4 e5 e6 e7 hH hK
  conv => arg 2; whnf
  go_wp2_with fail
  refine HK.out _ (8 * (X.U.length : Int) + 8 * (X.S.length : Int) + (X.D.length : Int)) (by omega) (by omega) ⟨rfl, rfl, ?_⟩
  simp only [baseA, List.forall_mem_cons, List.not_mem_nil, false_imp_iff, implies_true, and_true]
  exact ⟨rfl, rfl, rfl, rfl, rfl, rfl, rfl, rfl, rfl⟩

set_option maxHeartbeats 4000000 in
theorem a5 (X : Ctx) (w : World) (a : Act) (tot : Int) (Kc : Act → World → Prop) (hT : OAt w X.a0 X.T1) (hn : ∀ (i : Nat) (h : i < X.T1.length), X.T1[i].n ≤ maxLen) (hl : X.T1.length = X.n) (t0 : 0 ≤ tot) (t1 : tot ≤ 1048577) (hH : Has a (baseA X [(17, .int .i64 tot)]))
    (hK : ∀ (a' : Act) (tot : Int), 0 ≤ tot → tot ≤ 1048577 → Has a' (baseA X [(17, .int .i64 tot)]) → Kc a' w) :
    Code.wp Try.prog (seg Try.f4 5) (Exit.then Kc (bodyPost Try.prog Try.f4 (PostF w))) a w := by
  have HK : Hid (∀ (a' : Act) (tot : Int), 0 ≤ tot → tot ≤ 1048577 → Has a' (baseA X [(17, .int .i64 tot)]) → Kc a' w) := hK
  have hz := fun c => zzsize tot X.a0 c X.T1 w t0 t1 hT hn
  rw [hl] at hz
  have HZ : Hid (∀ c, Calls Try.prog 6 #[.int .i64 tot, .slice X.a0 X.n c] w fun e w' => Z6 w e w') := hz
  obtain ⟨x, rfl, hx⟩ := hH.open
  simp only [baseA, List.forall_mem_cons, List.not_mem_nil, false_imp_iff, implies_true, and_true] at hx
  obtain ⟨e0, e1, e2, e3, e4, e5, e6, e7, e17⟩ := hx
  unfold Fr
  simp only [e0, e1, e2, e3, e4, e5, e6, e7, e17]
  clear e0 e1 e2 e3 e4 e5 e6 e7 e17 hH hK hz hT hn hl
  conv => arg 2; whnf
  go_wp2_with fail
  refine (HZ.out _).mono ?_
  rintro e w' ⟨r, rfl, hw, r0, r1⟩
  obtain rfl : w' = w := hw
  go_wp2_with fail
  refine HK.out _ r r0 r1 ⟨rfl, rfl, ?_⟩
  simp only [baseA, List.forall_mem_cons, List.not_mem_nil, false_imp_iff, implies_true, and_true]
  exact ⟨rfl, rfl, rfl, rfl, rfl, rfl, rfl, rfl, rfl⟩

set_option maxHeartbeats 4000000 in
theorem a7 (X : Ctx) (w : World) (a : Act) (tot : Int) (Kc : Act → World → Prop) (hT : OAt w X.a1 X.T2) (hn : ∀ (i : Nat) (h : i < X.T2.length), X.T2[i].n ≤ maxLen) (t0 : 0 ≤ tot) (t1 : tot ≤ 1048577) (hH : Has a (baseA X [(17, .int .i64 tot)]))
    (hK : ∀ (a' : Act) (tot : Int), 0 ≤ tot → tot ≤ 1048577 → Has a' (baseA X [(17, .int .i64 tot)]) → Kc a' w) :
    Code.wp Try.prog (seg Try.f4 7) (Exit.then Kc (bodyPost Try.prog Try.f4 (PostF w))) a w := by
  have HK : Hid (∀ (a' : Act) (tot : Int), 0 ≤ tot → tot ≤ 1048577 → Has a' (baseA X [(17, .int .i64 tot)]) → Kc a' w) := hK
  have hz := fun c => zzsize tot X.a1 c X.T2 w t0 t1 hT hn
  have HZ : Hid (∀ c, Calls Try.prog 6 #[.int .i64 tot, .slice X.a1 X.T2.length c] w fun e w' => Z6 w e w') := hz
  obtain ⟨x, rfl, hx⟩ := hH.open
  simp only [baseA, List.forall_mem_cons, List.not_mem_nil, false_imp_iff, implies_true, and_true] at hx
  obtain ⟨e0, e1, e2, e3, e4, e5, e6, e7, e17⟩ := hx
  unfold Fr
  simp only [e0, e1, e2, e3, e4, e5, e6, e7, e17]
  clear e0 e1 e2 e3 e4 e5 e6 e7 e17 hH hK hz hT hn
  conv => arg 2; whnf
  go_wp2_with fail
  refine (HZ.out _).mono ?_
  rintro e w' ⟨r, rfl, hw, r0, r1⟩
  obtain rfl : w' = w := hw
  go_wp2_with fail
  refine HK.out _ r r0 r1 ⟨rfl, rfl, ?_⟩
  simp only [baseA, List.forall_mem_cons, List.not_mem_nil, false_imp_iff, implies_true, and_true]
  exact ⟨rfl, rfl, rfl, rfl, rfl, rfl, rfl, rfl, rfl⟩

set_option maxHeartbeats 4000000 in
theorem a9 (X : Ctx) (w : World) (a : Act) (tot : Int) (Kc : Act → World → Prop) (hT : OAt w X.a4 X.T3) (hn : ∀ (i : Nat) (h : i < X.T3.length), X.T3[i].n ≤ maxLen) (hl : X.T3.length = X.m) (t0 : 0 ≤ tot) (t1 : tot ≤ 1048577) (hH : Has a (baseA X [(17, .int .i64 tot)]))
    (hK : ∀ (a' : Act) (tot : Int), 0 ≤ tot → tot ≤ 1048577 → Has a' (baseA X [(17, .int .i64 tot)]) → Kc a' w) :
    Code.wp Try.prog (seg Try.f4 9) (Exit.then Kc (bodyPost Try.prog Try.f4 (PostF w))) a w := by
  have HK : Hid (∀ (a' : Act) (tot : Int), 0 ≤ tot → tot ≤ 1048577 → Has a' (baseA X [(17, .int .i64 tot)]) → Kc a' w) := hK
  have hz := fun c => zzsize tot X.a4 c X.T3 w t0 t1 hT hn
  rw [hl] at hz
  have HZ : Hid (∀ c, Calls Try.prog 6 #[.int .i64 tot, .slice X.a4 X.m c] w fun e w' => Z6 w e w') := hz
  obtain ⟨x, rfl, hx⟩ := hH.open
  simp only [baseA, List.forall_mem_cons, List.not_mem_nil, false_imp_iff, implies_true, and_true] at hx
  obtain ⟨e0, e1, e2, e3, e4, e5, e6, e7, e17⟩ := hx
  unfold Fr
  simp only [e0, e1, e2, e3, e4, e5, e6, e7, e17]
  clear e0 e1 e2 e3 e4 e5 e6 e7 e17 hH hK hz hT hn hl
  conv => arg 2; whnf
  go_wp2_with fail
  refine (HZ.out _).mono ?_
  rintro e w' ⟨r, rfl, hw, r0, r1⟩
  obtain rfl : w' = w := hw
  go_wp2_with fail
  refine HK.out _ r r0 r1 ⟨rfl, rfl, ?_⟩
  simp only [baseA, List.forall_mem_cons, List.not_mem_nil, false_imp_iff, implies_true, and_true]
  exact ⟨rfl, rfl, rfl, rfl, rfl, rfl, rfl, rfl, rfl⟩

set_option maxHeartbeats 4000000 in
theorem a11 (X : Ctx) (w : World) (a : Act) (tot : Int) (Kc : Act → World → Prop) (hT : OAt w X.a5 X.T4) (hn : ∀ (i : Nat) (h : i < X.T4.length), X.T4[i].n ≤ maxLen) (t0 : 0 ≤ tot) (t1 : tot ≤ 1048577) (hH : Has a (baseA X [(17, .int .i64 tot)]))
    (hK : ∀ (a' : Act) (tot : Int), 0 ≤ tot → tot ≤ 1048577 → Has a' (baseA X [(17, .int .i64 tot)]) → Kc a' w) :
    Code.wp Try.prog (seg Try.f4 11) (Exit.then Kc (bodyPost Try.prog Try.f4 (PostF w))) a w := by
  have HK : Hid (∀ (a' : Act) (tot : Int), 0 ≤ tot → tot ≤ 1048577 → Has a' (baseA X [(17, .int .i64 tot)]) → Kc a' w) := hK
  have hz := fun c => zzsize tot X.a5 c X.T4 w t0 t1 hT hn
  have HZ : Hid (∀ c, Calls Try.prog 6 #[.int .i64 tot, .slice X.a5 X.T4.length c] w fun e w' => Z6 w e w') := hz
  obtain ⟨x, rfl, hx⟩ := hH.open
  simp only [baseA, List.forall_mem_cons, List.not_mem_nil, false_imp_iff, implies_true, and_true] at hx
  obtain ⟨e0, e1, e2, e3, e4, e5, e6, e7, e17⟩ := hx
  unfold Fr
  simp only [e0, e1, e2, e3, e4, e5, e6, e7, e17]
  clear e0 e1 e2 e3 e4 e5 e6 e7 e17 hH hK hz hT hn
  conv => arg 2; whnf
  go_wp2_with fail
  refine (HZ.out _).mono ?_
  rintro e w' ⟨r, rfl, hw, r0, r1⟩
  obtain rfl : w' = w := hw
  go_wp2_with fail
  refine HK.out _ r r0 r1 ⟨rfl, rfl, ?_⟩
  simp only [baseA, List.forall_mem_cons, List.not_mem_nil, false_imp_iff, implies_true, and_true]
  exact ⟨rfl, rfl, rfl, rfl, rfl, rfl, rfl, rfl, rfl⟩

set_option maxHeartbeats 4000000 in
theorem a6 (X : Ctx) (w : World) (a : Act) (tot : Int) (Kc : Act → World → Prop) (hH : Has a (baseA X [(17, .int .i64 tot)]))
    (hK : ∀ (a' : Act), tot ≤ 1048576 → Has a' (baseA X [(17, .int .i64 tot)]) → Kc a' w) :
    Code.wp Try.prog (seg Try.f4 6) (Exit.then Kc (bodyPost Try.prog Try.f4 (PostF w))) a w := by
  have HK : Hid (∀ (a' : Act), tot ≤ 1048576 → Has a' (baseA X [(17, .int .i64 tot)]) → Kc a' w) := hK
  obtain ⟨x, rfl, hx⟩ := hH.open
  simp only [baseA, List.forall_mem_cons, List.not_mem_nil, false_imp_iff, implies_true, and_true] at hx
  obtain ⟨e0, e1, e2, e3, e4, e5, e6, e7, e17⟩ := hx
  unfold Fr
  simp only [e0, e1, e2, e3, e4, e5, e6, e7, e17]
  clear e0 e1 e2 e3 e4 e5 e6 e7 e17 hH hK
  conv => arg 2; whnf
  by_cases q : tot ≤ 1048576
  · go_wp2_with fail
    refine HK.out _ q ⟨rfl, rfl, ?_⟩
    simp only [baseA, List.forall_mem_cons, List.not_mem_nil, false_imp_iff, implies_true, and_true]
    exact ⟨rfl, rfl, rfl, rfl, rfl, rfl, rfl, rfl, rfl⟩
  · go_wp2_with fail
    go_ret
    exact ⟨rfl, Below.refl _ _⟩

set_option maxHeartbeats 4000000 in
theorem a8 (X : Ctx) (w : World) (a : Act) (tot : Int) (Kc : Act → World → Prop) (hH : Has a (baseA X [(17, .int .i64 tot)]))
    (hK : ∀ (a' : Act), tot ≤ 1048576 → Has a' (baseA X [(17, .int .i64 tot)]) → Kc a' w) :
    Code.wp Try.prog (seg Try.f4 8) (Exit.then Kc (bodyPost Try.prog Try.f4 (PostF w))) a w := by
  have HK : Hid (∀ (a' : Act), tot ≤ 1048576 → Has a' (baseA X [(17, .int .i64 tot)]) → Kc a' w) := hK
  obtain ⟨x, rfl, hx⟩ := hH.open
  simp only [baseA, List.forall_mem_cons, List.not_mem_nil, false_imp_iff, implies_true, and_true] at hx
  obtain ⟨e0, e1, e2, e3, e4, e5, e6, e7, e17⟩ := hx
  unfold Fr
  simp only [e0, e1, e2, e3, e4, e5, e6, e7, e17]
  clear e0 e1 e2 e3 e4 e5 e6 e7 e17 hH hK
  conv => arg 2; whnf
  by_cases q : tot ≤ 1048576
  · go_wp2_with fail
    refine HK.out _ q ⟨rfl, rfl, ?_⟩
    simp only [baseA, List.forall_mem_cons, List.not_mem_nil, false_imp_iff, implies_true, and_true]
    exact ⟨rfl, rfl, rfl, rfl, rfl, rfl, rfl, rfl, rfl⟩
  · go_wp2_with fail
    go_ret
    exact ⟨rfl, Below.refl _ _⟩

set_option maxHeartbeats 4000000 in
theorem a10 (X : Ctx) (w : World) (a : Act) (tot : Int) (Kc : Act → World → Prop) (hH : Has a (baseA X [(17, .int .i64 tot)]))
    (hK : ∀ (a' : Act), tot ≤ 1048576 → Has a' (baseA X [(17, .int .i64 tot)]) → Kc a' w) :
    Code.wp Try.prog (seg Try.f4 10) (Exit.then Kc (bodyPost Try.prog Try.f4 (PostF w))) a w := by
  have HK : Hid (∀ (a' : Act), tot ≤ 1048576 → Has a' (baseA X [(17, .int .i64 tot)]) → Kc a' w) := hK
  obtain ⟨x, rfl, hx⟩ := hH.open
  simp only [baseA, List.forall_mem_cons, List.not_mem_nil, false_imp_iff, implies_true, and_true] at hx
  obtain ⟨e0, e1, e2, e3, e4, e5, e6, e7, e17⟩ := hx
  unfold Fr
  simp only [e0, e1, e2, e3, e4, e5, e6, e7, e17]
  clear e0 e1 e2 e3 e4 e5 e6 e7 e17 hH hK
  conv => arg 2; whnf
  by_cases q : tot ≤ 1048576
  · go_wp2_with fail
    refine HK.out _ q ⟨rfl, rfl, ?_⟩
    simp only [baseA, List.forall_mem_cons, List.not_mem_nil, false_imp_iff, implies_true, and_true]
    exact ⟨rfl, rfl, rfl, rfl, rfl, rfl, rfl, rfl, rfl⟩
  · go_wp2_with fail
    go_ret
    exact ⟨rfl, Below.refl _ _⟩

set_option maxHeartbeats 4000000 in
theorem a12 (X : Ctx) (w : World) (a : Act) (tot : Int) (Kc : Act → World → Prop) (hH : Has a (baseA X [(17, .int .i64 tot)]))
    (hK : ∀ (a' : Act), tot ≤ 1048576 → Has a' (baseA X [(17, .int .i64 tot)]) → Kc a' w) :
    Code.wp Try.prog (seg Try.f4 12) (Exit.then Kc (bodyPost Try.prog Try.f4 (PostF w))) a w := by
  have HK : Hid (∀ (a' : Act), tot ≤ 1048576 → Has a' (baseA X [(17, .int .i64 tot)]) → Kc a' w) := hK
  obtain ⟨x, rfl, hx⟩ := hH.open
  simp only [baseA, List.forall_mem_cons, List.not_mem_nil, false_imp_iff, implies_true, and_true] at hx
  obtain ⟨e0, e1, e2, e3, e4, e5, e6, e7, e17⟩ := hx
  unfold Fr
  simp only [e0, e1, e2, e3, e4, e5, e6, e7, e17]
  clear e0 e1 e2 e3 e4 e5 e6 e7 e17 hH hK
  conv => arg 2; whnf
  by_cases q : tot ≤ 1048576
  · go_wp2_with fail
    refine HK.out _ q ⟨rfl, rfl, ?_⟩
    simp only [baseA, List.forall_mem_cons, List.not_mem_nil, false_imp_iff, implies_true, and_true]
    exact ⟨rfl, rfl, rfl, rfl, rfl, rfl, rfl, rfl, rfl⟩
  · go_wp2_with fail
    go_ret
    exact ⟨rfl, Below.refl _ _⟩

set_option maxHeartbeats 4000000 in
theorem a13 (X : Ctx) (w : World) (a : Act) (Kc : Act → World → Prop) (hH : Has a (baseA X []))
    (hK : ∀ (a' : Act), X.T2.length = X.n ∧ X.U.length = X.n → Has a' (baseA X []) → Kc a' w) :
    Code.wp Try.prog (seg Try.f4 13) (Exit.then Kc (bodyPost Try.prog Try.f4 (PostF w))) a w := by
  have HK : Hid (∀ (a' : Act), X.T2.length = X.n ∧ X.U.length = X.n → Has a' (baseA X []) → Kc a' w) := hK
  obtain ⟨x, rfl, hx⟩ := hH.open
  simp only [baseA, List.forall_mem_cons, List.not_mem_nil, false_imp_iff, implies_true, and_true] at hx
  obtain ⟨e0, e1, e2, e3, e4, e5, e6, e7⟩ := hx
  unfold Fr
  simp only [e0, e1, e2, e3, e4, e5, e6, e7]
  clear e0 e1 e2 e3 e4 e5 e6 e7 hH hK
  conv => arg 2; whnf
  go_wp2_with fail
  all_goals first
    | (go_ret; exact ⟨rfl, Below.refl _ _⟩)
    | (rename_i hq; have hq' := bne_nat hq; refine HK.out _ ⟨by omega, by omega⟩ ⟨rfl, rfl, ?_⟩; simp only [baseA, List.forall_mem_cons, List.not_mem_nil, false_imp_iff, implies_true, and_true]; exact ⟨rfl, rfl, rfl, rfl, rfl, rfl, rfl, rfl⟩)

set_option maxHeartbeats 4000000 in
theorem a14 (X : Ctx) (w : World) (a : Act) (Kc : Act → World → Prop) (hH : Has a (baseA X []))
    (hK : ∀ (a' : Act), X.T4.length = X.m ∧ X.S.length = X.m ∧ X.D.length = X.m → Has a' (baseA X []) → Kc a' w) :
    Code.wp Try.prog (seg Try.f4 14) (Exit.then Kc (bodyPost Try.prog Try.f4 (PostF w))) a w := by
  have HK : Hid (∀ (a' : Act), X.T4.length = X.m ∧ X.S.length = X.m ∧ X.D.length = X.m → Has a' (baseA X []) → Kc a' w) := hK
  obtain ⟨x, rfl, hx⟩ := hH.open
  simp only [baseA, List.forall_mem_cons, List.not_mem_nil, false_imp_iff, implies_true, and_true] at hx
  obtain ⟨e0, e1, e2, e3, e4, e5, e6, e7⟩ := hx
  unfold Fr
  simp only [e0, e1, e2, e3, e4, e5, e6, e7]
  clear e0 e1 e2 e3 e4 e5 e6 e7 hH hK
  conv => arg 2; whnf
  go_wp2_with fail
  all_goals first
    | (go_ret; exact ⟨rfl, Below.refl _ _⟩)
    | (rename_i hq; have hq' := bne_nat hq; refine HK.out _ ⟨by omega, by omega, by omega⟩ ⟨rfl, rfl, ?_⟩; simp only [baseA, List.forall_mem_cons, List.not_mem_nil, false_imp_iff, implies_true, and_true]; exact ⟨rfl, rfl, rfl, rfl, rfl, rfl, rfl, rfl⟩)

set_option maxHeartbeats 4000000 in
theorem a15 (X : Ctx) (w : World) (a : Act) (Kc : Act → World → Prop) (hl : X.T1.length = X.n) (hk : X.T1.length = X.K.length) (hT : OAt w X.a0 X.T1) (hi : ∀ (i : Nat) (h : i < X.T1.length) (h' : i < X.K.length), IsV w X.T1[i] X.K[i]) (hH : Has a (baseA X []))
    (hK : ∀ (a' : Act) (n : Nat), Asc X.K → Has a' (baseA X []) → Kc a' (w.drewN n)) :
    Code.wp Try.prog (seg Try.f4 15) (Exit.then Kc (bodyPost Try.prog Try.f4 (PostF w))) a w := by
  have HK : Hid (∀ (a' : Act) (n : Nat), Asc X.K → Has a' (baseA X []) → Kc a' (w.drewN n)) := hK
  have hz := zzasc X.a0 X.c0 X.T1 X.K w hk hT hi
  rw [hl] at hz
  have HZ : Hid (Calls Try.prog 8 #[.slice X.a0 X.n X.c0] w fun e w' => Z8 X.K w e w') := hz
  obtain ⟨x, rfl, hx⟩ := hH.open
  simp only [baseA, List.forall_mem_cons, List.not_mem_nil, false_imp_iff, implies_true, and_true] at hx
  obtain ⟨e0, e1, e2, e3, e4, e5, e6, e7⟩ := hx
  unfold Fr
  simp only [e0, e1, e2, e3, e4, e5, e6, e7]
  clear e0 e1 e2 e3 e4 e5 e6 e7 hH hK hz hT hi hl hk
  conv => arg 2; whnf
  go_wp2_with fail
  refine HZ.out.mono ?_
  rintro e w' ⟨b, rfl, ⟨n, rfl⟩, hb⟩
  have HB : Hid (b = true → Asc X.K) := hb
  clear HZ hb
  cases b
  · go_wp2
    go_ret
    exact ⟨rfl, Below.drewN' _ _⟩
  · go_wp2_with fail
    refine HK.out _ n (HB.out (by simp)) ⟨rfl, rfl, ?_⟩
    simp only [baseA, List.forall_mem_cons, List.not_mem_nil, false_imp_iff, implies_true, and_true]
    exact ⟨rfl, rfl, rfl, rfl, rfl, rfl, rfl, rfl⟩
end Go.Proofs.Qxb6617343a
