import Derived.Test.Qxb6617343aSegA
namespace Go.Proofs.Qxb6617343a
open Go.RowKit
set_option maxRecDepth 100000
theorem rest_eq0 : (fb Try.f4) = Code.seq (seg Try.f4 0) (restC 1 (fb Try.f4)) := rfl
theorem rest_eq1 : restC 1 (fb Try.f4) = Code.seq (seg Try.f4 1) (restC 2 (fb Try.f4)) := rfl
theorem rest_eq2 : restC 2 (fb Try.f4) = Code.seq (seg Try.f4 2) (restC 3 (fb Try.f4)) := rfl
theorem rest_eq3 : restC 3 (fb Try.f4) = Code.seq (seg Try.f4 3) (restC 4 (fb Try.f4)) := rfl
theorem rest_eq4 : restC 4 (fb Try.f4) = Code.seq (seg Try.f4 4) (restC 5 (fb Try.f4)) := rfl
theorem rest_eq5 : restC 5 (fb Try.f4) = Code.seq (seg Try.f4 5) (restC 6 (fb Try.f4)) := rfl
theorem rest_eq6 : restC 6 (fb Try.f4) = Code.seq (seg Try.f4 6) (restC 7 (fb Try.f4)) := rfl
theorem rest_eq7 : restC 7 (fb Try.f4) = Code.seq (seg Try.f4 7) (restC 8 (fb Try.f4)) := rfl
theorem rest_eq8 : restC 8 (fb Try.f4) = Code.seq (seg Try.f4 8) (restC 9 (fb Try.f4)) := rfl
theorem rest_eq9 : restC 9 (fb Try.f4) = Code.seq (seg Try.f4 9) (restC 10 (fb Try.f4)) := rfl
theorem rest_eq10 : restC 10 (fb Try.f4) = Code.seq (seg Try.f4 10) (restC 11 (fb Try.f4)) := rfl
theorem rest_eq11 : restC 11 (fb Try.f4) = Code.seq (seg Try.f4 11) (restC 12 (fb Try.f4)) := rfl
theorem rest_eq12 : restC 12 (fb Try.f4) = Code.seq (seg Try.f4 12) (restC 13 (fb Try.f4)) := rfl
theorem rest_eq13 : restC 13 (fb Try.f4) = Code.seq (seg Try.f4 13) (restC 14 (fb Try.f4)) := rfl
theorem rest_eq14 : restC 14 (fb Try.f4) = Code.seq (seg Try.f4 14) (restC 15 (fb Try.f4)) := rfl
theorem rest_eq15 : restC 15 (fb Try.f4) = Code.seq (seg Try.f4 15) (restC 16 (fb Try.f4)) := rfl
theorem rest_eq16 : restC 16 (fb Try.f4) = Code.seq (seg Try.f4 16) (restC 17 (fb Try.f4)) := rfl
theorem rest_eq17 : restC 17 (fb Try.f4) = Code.seq (seg Try.f4 17) (restC 18 (fb Try.f4)) := rfl
theorem rest_eq18 : restC 18 (fb Try.f4) = Code.seq (seg Try.f4 18) (restC 19 (fb Try.f4)) := rfl
theorem rest_eq19 : restC 19 (fb Try.f4) = Code.seq (seg Try.f4 19) (restC 20 (fb Try.f4)) := rfl
theorem rest_eq20 : restC 20 (fb Try.f4) = Code.seq (seg Try.f4 20) (restC 21 (fb Try.f4)) := rfl
theorem rest_eq21 : restC 21 (fb Try.f4) = Code.seq (seg Try.f4 21) (restC 22 (fb Try.f4)) := rfl
theorem rest_eq22 : restC 22 (fb Try.f4) = Code.seq (seg Try.f4 22) (restC 23 (fb Try.f4)) := rfl
theorem rest_eq23 : restC 23 (fb Try.f4) = Code.seq (seg Try.f4 23) (restC 24 (fb Try.f4)) := rfl
theorem rest_eq24 : restC 24 (fb Try.f4) = Code.seq (seg Try.f4 24) (restC 25 (fb Try.f4)) := rfl
theorem rest_eq25 : restC 25 (fb Try.f4) = Code.seq (seg Try.f4 25) (restC 26 (fb Try.f4)) := rfl
theorem rest_eq26 : restC 26 (fb Try.f4) = Code.seq (seg Try.f4 26) (restC 27 (fb Try.f4)) := rfl
theorem rest_eq27 : restC 27 (fb Try.f4) = Code.seq (seg Try.f4 27) (restC 28 (fb Try.f4)) := rfl
theorem rest_eq28 : restC 28 (fb Try.f4) = Code.seq (seg Try.f4 28) (restC 29 (fb Try.f4)) := rfl

theorem Has.less {a : Act} {L L' : List (Nat × Value)} (h : Has a L) (hs : ∀ p ∈ L', p ∈ L) : Has a L' := ⟨h.1, h.2.1, fun p hp => h.2.2 p (hs p hp)⟩

theorem phaseB (X : Ctx) (w0 w : World) (a : Act) (hi0 : Inp X w0) (hb : Below w0.heap.size w0 w) (hH : Has a (base X [])) :
    Code.wp Try.prog (restC 16 (fb Try.f4)) (bodyPost Try.prog Try.f4 (PostF w0)) a w := by
  rw [rest_eq16]
  refine wp_seq (seg16 X w0 w a _ hi0 hH hb fun a1 w1 g h1 hR1 => ?_)
  rw [rest_eq17]
  refine wp_seq (segB X w0 w1 a1 g _ hi0 h1 hR1 fun a2 w2 Rs h2 hl2 hR2 hO2 => ?_)
  rw [rest_eq18]
  refine wp_seq (seg18 X w0 w2 a2 g Rs _ h2 hl2 hR2 hO2 fun a3 w3 bt h3 hA3 => ?_)
  rw [rest_eq19]
  refine wp_seq (seg19 X w0 w3 a3 bt g Rs _ hi0 h3 hA3 fun a4 w4 Z h4 hZ hA4 => ?_)
  rw [rest_eq20]
  refine wp_seq (seg20 X w0 w4 a4 bt _ hi0 h4 fun a5 w5 h h5 hR5 => ?_)
  rw [rest_eq21]
  refine wp_seq (seg21 X w0 w5 a5 bt h _ h5 fun a6 h6 => ?_)
  rw [rest_eq22]
  refine wp_seq (seg22 X w0 w4 w5 a6 bt g h Rs Z _ hi0 h6 hA4 hZ hR5 fun a7 w7 h7 hR7 => ?_)
  have hS7 : St X w0 w7 bt g h Rs Z := ⟨hA4.later hR7.below, hR7.block, hZ⟩
  rw [rest_eq23]
  refine wp_seq (seg23 X w0 w7 a7 bt g h Rs Z _ h7 hS7 fun a8 h8 => ?_)
  rw [rest_eq24]
  refine wp_seq (seg24 X w0 w7 a8 bt g h Rs Z _ h8 hS7 fun a9 h9 => ?_)
  rw [rest_eq25]
  refine wp_seq (seg25 X w0 w7 a9 bt g h _ h9 fun a10 h10 => ?_)
  rw [rest_eq26]
  refine wp_seq (seg26 X w0 w7 a10 bt g h Rs Z _ _ hi0 hS7 h10 fun a11 w11 h11 hS11 => ?_)
  rw [rest_eq27]
  refine wp_seq (s27 X w11 a11 bt h _ _ (h11.less (by simp [base])) fun a12 h12 => ?_)
  rw [rest_eq28]
  refine wp_seq (seg28 X w0 w11 a12 bt g h Rs Z _ _ hi0 hS11 h12 fun a13 w13 h13 hS13 => ?_)
  obtain ⟨mv, hT⟩ := hS13.af.ts
  refine segG X w0 w13 a13 w0.heap.size bt g _ _ mv _ (h13.less (by simp [base])) hT ?_ hS13.af.below
  cases mv with
  | none => rw [hT.mapN rfl]; rfl
  | some bm =>
    have := hT.mapE bm rfl
    simp [this]

theorem phaseA (X : Ctx) (w : World) (a : Act) (h0 : Inp0 X w) (hH : Has a (baseA X [])) :
    Code.wp Try.prog (fb Try.f4) (bodyPost Try.prog Try.f4 (PostF w)) a w := by
  rw [rest_eq0]
  refine wp_seq (a0 X w a _ hH fun a1' h1 => ?_)
  rw [rest_eq1]
  refine wp_seq (a1 X w a1' _ h0 h1 fun a2' hs h2 => ?_)
  obtain ⟨⟨s1, s2, s3, s4⟩, b2, b6, b7⟩ := hs
  have k1 := s1.1
  have k3 := s3.1
  rw [h0.n1] at k1
  rw [h0.n3] at k3
  rw [rest_eq2]
  refine wp_seq (a2 X w a2' _ k1 s2.1 b2 h2 fun a3' hq3 h3 => ?_)
  rw [rest_eq3]
  refine wp_seq (a3 X w a3' _ k3 s4.1 b6 b7 h3 fun a4' hq4 h4 => ?_)
  rw [rest_eq4]
  refine wp_seq (a4 X w a4' _ hq3.2.2 hq4.2.2.1 hq4.2.2.2 h4 fun a5' t5 l5 u5 h5 => ?_)
  rw [rest_eq5]
  refine wp_seq (a5 X w a5' t5 _ h0.k h0.m1 h0.n1 l5 u5 h5 fun a6' t6 l6 u6 h6 => ?_)
  rw [rest_eq6]
  refine wp_seq (a6 X w a6' t6 _ h6 fun a7' v7 h7 => ?_)
  rw [rest_eq7]
  refine wp_seq (a7 X w a7' t6 _ h0.v h0.m2 l6 u6 h7 fun a8' t8 l8 u8 h8 => ?_)
  rw [rest_eq8]
  refine wp_seq (a8 X w a8' t8 _ h8 fun a9' v9 h9 => ?_)
  rw [rest_eq9]
  refine wp_seq (a9 X w a9' t8 _ h0.sk h0.m3 h0.n3 l8 u8 h9 fun a10' t10 l10 u10 h10 => ?_)
  rw [rest_eq10]
  refine wp_seq (a10 X w a10' t10 _ h10 fun a11' v11 h11 => ?_)
  rw [rest_eq11]
  refine wp_seq (a11 X w a11' t10 _ h0.sv h0.m4 l10 u10 h11 fun a12' t12 l12 u12 h12 => ?_)
  rw [rest_eq12]
  refine wp_seq (a12 X w a12' t12 _ h12 fun a13' v13 h13 => ?_)
  rw [rest_eq13]
  refine wp_seq (a13 X w a13' _ (h13.less (by simp [baseA])) fun a14' e14 h14 => ?_)
  rw [rest_eq14]
  refine wp_seq (a14 X w a14' _ h14 fun a15' e15 h15 => ?_)
  have ik : ∀ (i : Nat) (h : i < X.T1.length) (h' : i < X.K.length), IsV w X.T1[i] X.K[i] := fun i h h' => (h0.ik i h h').isV (s1.2 i h)
  rw [rest_eq15]
  refine wp_seq (a15 X w a15' _ h0.n1 h0.lK.symm h0.k ik h15 fun a16' n hasc h16 => ?_)
  have hI : Inp X w := ⟨h0.k, h0.v, h0.sk, h0.sv, h0.u, h0.s, h0.dd, ik, fun i h h' => (h0.iv i h h').isV (s2.2 i h), fun i h h' => (h0.isk i h h').isV (s3.2 i h), fun i h h' => (h0.isv i h h').isV (s4.2 i h),
    h0.n1, e14.1, h0.n3, e15.1, h0.lK.trans h0.n1, h0.lV.trans e14.1, e14.2, h0.lSK.trans h0.n3, h0.lSV.trans e15.1, e15.2.1, e15.2.2, hq3.1, hq4.1, hasc⟩
  refine phaseB X w (w.drewN n) a16' hI (Below.drewN' _ _) ?_
  have hbb : baseA X [] = base X [] := by
    unfold baseA base
    rw [e14.1, e14.2, e15.1, e15.2.1, e15.2.2]
  rw [← hbb]; exact h16

theorem main4 (X : Ctx) (w : World) (h0 : Inp0 X w) :
    Calls Try.prog 4 #[.slice X.a0 X.n X.c0, .slice X.a1 X.T2.length X.c1, .slice X.a2 X.U.length X.c2, .bool X.d, .slice X.a4 X.m X.c4, .slice X.a5 X.T4.length X.c5, .slice X.a6 X.S.length X.c6, .slice X.a7 X.D.length X.c7] w (PostF w) := by
  refine calls_of_wp Try.func4 rfl ?_
  show Code.wp Try.prog (fb Try.f4) _ _ _
  refine phaseA X w _ h0 ⟨?_, rfl, ?_⟩
  · simp
  · simp [baseA]
end Go.Proofs.Qxb6617343a
