import Derived.Test.Qxb6617343aSegE
namespace Go.Proofs.Qxb6617343a
open Go.RowKit
set_option maxRecDepth 100000

def firstLoop : Code → Option Code
  | .loop c => some c
  | .seq a b => match firstLoop a with
    | some c => some c
    | none => firstLoop b
  | .block _ c => firstLoop c
  | .scope c => firstLoop c
  | .cond _ a b => match firstLoop a with
    | some c => some c
    | none => firstLoop b
  | _ => none
def blockIn : Code → Code
  | .block _ c => c
  | c => c
def b4 (f : Func) : Code := (firstLoop (seg f 26)).getD .skip
def in4 (f : Func) : Code := blockIn (nthC 1 (b4 f))
theorem seg26_eq : seg Try.f4 26 = Code.seq (nthC 0 (seg Try.f4 26)) (Code.block 6 (Code.loop (b4 Try.f4))) := rfl
theorem b4_eq : (b4 Try.f4) = Code.seq (nthC 0 (b4 Try.f4)) (Code.seq (Code.block 7 (in4 Try.f4)) (restC 2 (b4 Try.f4))) := rfl
theorem in4_eq : (in4 Try.f4) = Code.seq (nthC 0 (in4 Try.f4)) (Code.seq (nthC 1 (in4 Try.f4)) (Code.seq (nthC 2 (in4 Try.f4)) (Code.seq (nthC 3 (in4 Try.f4)) (Code.seq (nthC 4 (in4 Try.f4)) (Code.seq (nthC 5 (in4 Try.f4)) (Code.seq (nthC 6 (in4 Try.f4)) (restC 7 (in4 Try.f4)))))))) := rfl
theorem in42_eq : nthC 2 (in4 Try.f4) = Code.seq (nthC 0 (nthC 2 (in4 Try.f4))) (Code.block 8 (Code.loop ((firstLoop (nthC 2 (in4 Try.f4))).getD .skip))) := rfl

/-- the newest put that hits row i; the newest change that hits it -/
def FP (X : Ctx) (Z : SC) (i : Nat) (lp : Int) : Prop :=
  (lp = -1 ∧ ∀ (x : Nat) (z : List UInt8 × VR), Z[x]? = some z → idxL (X.K.map byL) z.1 = (i : Int) → z.2.d = true) ∨
  (∃ (p : Nat) (z : List UInt8 × VR), lp = (p : Int) ∧ Z[p]? = some z ∧ idxL (X.K.map byL) z.1 = (i : Int) ∧ z.2.d = false ∧ ∀ (x : Nat) (z' : List UInt8 × VR), p < x → Z[x]? = some z' → idxL (X.K.map byL) z'.1 = (i : Int) → z'.2.d = true)
def FA (X : Ctx) (Z : SC) (i : Nat) (la : Int) : Prop :=
  (la = -1 ∧ ∀ (x : Nat) (z : List UInt8 × VR), Z[x]? = some z → idxL (X.K.map byL) z.1 ≠ (i : Int)) ∨
  (∃ (p : Nat) (z : List UInt8 × VR), la = (p : Int) ∧ Z[p]? = some z ∧ idxL (X.K.map byL) z.1 = (i : Int) ∧ ∀ (x : Nat) (z' : List UInt8 × VR), p < x → Z[x]? = some z' → idxL (X.K.map byL) z'.1 ≠ (i : Int))

set_option maxHeartbeats 4000000 in
theorem tV (X : Ctx) (w0 w : World) (a : Act) (bt g h i : Nat) (la lp : Int) (Rs : List RW) (Z : SC) (r0 : RW) (Q : Exit → Act → World → Prop) (Kc : Act → World → Prop) (hi0 : Inp X w0) (hS : St X w0 w bt g h Rs Z) (hi : i < X.n)
    (hr0 : Rs[i]? = some r0) (hP : FP X Z i lp) (hH : Has a (base X [(20, .pointer (some ⟨bt, 0, none⟩)), (22, .slice (some ⟨h, 0, none⟩) X.m X.m), (25, .slice (some ⟨g, 0, none⟩) X.n X.n), (26, .int .i64 (i : Int)), (27, .int .i64 la), (28, .int .i64 lp)]))
    (hK : ∀ (a' : Act) (tw : SL) (ov : OB), Has a' (base X [(20, .pointer (some ⟨bt, 0, none⟩)), (22, .slice (some ⟨h, 0, none⟩) X.m X.m), (25, .slice (some ⟨g, 0, none⟩) X.n X.n), (26, .int .i64 (i : Int)), (27, .int .i64 la), (30, .slice tw.a tw.n tw.c)]) → IsV w tw ov → IsV w (rfold (X.K.map byL) (i : Int) Z r0).v ov → Kc a' w) :
    Code.wp Try.prog (nthC 3 (in4 Try.f4)) (Exit.then (fun a w => Code.wp Try.prog (nthC 4 (in4 Try.f4)) (Exit.then Kc Q) a w) Q) a w := by
  have hbw := hS.af.below
  obtain ⟨bv, ov, tv, pv, eV, cV, iV, qV⟩ := hi0.atV i hi
  rw [← hbw.cell (cell_lt cV)] at cV
  replace iV := iV.keep (Keeps.of_below hbw)
  obtain ⟨k0, v0, y1, y2, y3, y4, y5⟩ := hS.af.rows i r0 hr0
  rw [qV] at y2
  have hv0 : v0 = pv := (Option.some.inj y2).symm
  rw [hv0] at y5
  have hn := hi0.hn
  have hm := hi0.hm
  rcases hP with ⟨rfl, hall⟩ | ⟨p, z, rfl, hz, hit, hzd, hall⟩
  · have HK : Hid (∀ (a' : Act), (∃ tw : SL, tw = tv ∧ Has a' (base X [(20, .pointer (some ⟨bt, 0, none⟩)), (22, .slice (some ⟨h, 0, none⟩) X.m X.m), (25, .slice (some ⟨g, 0, none⟩) X.n X.n), (26, .int .i64 (i : Int)), (27, .int .i64 la), (30, .slice tw.a tw.n tw.c)])) → Kc a' w) := fun a' ⟨tw, e, hh⟩ => by
      refine hK a' tw pv hh (by rw [e]; exact iV) ?_
      rw [rfold_del _ _ _ _ fun z hz hh => by
        obtain ⟨j, hj⟩ := List.mem_iff_getElem?.1 hz
        exact hall j z hj hh]
      exact y5
    have E : Hid (X.a1 = some ⟨bv, ov, none⟩) := eV
    obtain ⟨x, rfl, hx⟩ := hH.open
    simp only [base, List.forall_mem_cons, List.not_mem_nil, false_imp_iff, implies_true, and_true] at hx
    obtain ⟨e0, e1, e2, e3, e4, e5, e6, e7, e20, e22, e25, e26, e27, e28⟩ := hx
    unfold Fr
    simp only [e0, e1, e2, e3, e4, e5, e6, e7, e20, e22, e25, e26, e27, e28]
    clear e0 e1 e2 e3 e4 e5 e6 e7 e20 e22 e25 e26 e27 e28 hH hK hall hr0 y1 y2 y3 y4 y5 hv0 qV iV hbw hS hi0
    rw [eV]
    clear eV
    conv => arg 2; whnf
    go_wp2_with fail
    conv => arg 2; whnf
    go_wp2_with fail
    refine HK.out _ ⟨tv, rfl, rfl, rfl, ?_⟩
    simp only [base, List.forall_mem_cons, List.not_mem_nil, false_imp_iff, implies_true, and_true]
    rw [E.out]
    exact ⟨rfl, rfl, rfl, rfl, rfl, rfl, rfl, rfl, rfl, rfl, rfl, rfl, rfl, rfl⟩
  · have hp : p < X.m := by rw [← hS.zl]; exact (List.getElem?_eq_some_iff.1 hz).1
    obtain ⟨bs, os, ts, ps, eS, cS, iS, qS⟩ := hi0.atSV p hp
    rw [← hbw.cell (cell_lt cS)] at cS
    replace iS := iS.keep (Keeps.of_below hbw)
    obtain ⟨k1, v1, x1, x2, x3, x4, x5, x6⟩ := hS.af.sc p z hz
    rw [qS] at x3
    have hv1 : v1 = ps := (Option.some.inj x3).symm
    rw [hv1] at x4
    have HK : Hid (∀ (a' : Act), (∃ tw : SL, tw = ts ∧ Has a' (base X [(20, .pointer (some ⟨bt, 0, none⟩)), (22, .slice (some ⟨h, 0, none⟩) X.m X.m), (25, .slice (some ⟨g, 0, none⟩) X.n X.n), (26, .int .i64 (i : Int)), (27, .int .i64 la), (30, .slice tw.a tw.n tw.c)])) → Kc a' w) := fun a' ⟨tw, e, hh⟩ => by
      refine hK a' tw ps hh (by rw [e]; exact iS) ?_
      rw [law_put _ _ _ p z _ hz hit hzd hall]
      exact x4
    have E : Hid (X.a1 = some ⟨bv, ov, none⟩ ∧ X.a5 = some ⟨bs, os, none⟩) := ⟨eV, eS⟩
    obtain ⟨x, rfl, hx⟩ := hH.open
    simp only [base, List.forall_mem_cons, List.not_mem_nil, false_imp_iff, implies_true, and_true] at hx
    obtain ⟨e0, e1, e2, e3, e4, e5, e6, e7, e20, e22, e25, e26, e27, e28⟩ := hx
    unfold Fr
    simp only [e0, e1, e2, e3, e4, e5, e6, e7, e20, e22, e25, e26, e27, e28]
    clear e0 e1 e2 e3 e4 e5 e6 e7 e20 e22 e25 e26 e27 e28 hH hK hall hr0 y1 y2 y3 y4 y5 hv0 qV iV x1 x2 x3 x4 x5 x6 hv1 qS iS hit hzd hz hbw hS hi0
    rw [eV, eS]
    clear eV eS
    conv => arg 2; whnf
    go_wp2_with fail
    conv => arg 2; whnf
    go_wp2_with fail
    refine HK.out _ ⟨ts, rfl, rfl, rfl, ?_⟩
    simp only [base, List.forall_mem_cons, List.not_mem_nil, false_imp_iff, implies_true, and_true]
    rw [E.out.1, E.out.2]
    exact ⟨rfl, rfl, rfl, rfl, rfl, rfl, rfl, rfl, rfl, rfl, rfl, rfl, rfl, rfl⟩

set_option maxHeartbeats 4000000 in
theorem tT (X : Ctx) (w0 w : World) (a : Act) (bt g h i : Nat) (la : Int) (tw : SL) (Rs : List RW) (Z : SC) (r0 : RW) (Q : Exit → Act → World → Prop) (Kc : Act → World → Prop) (hi0 : Inp X w0) (hS : St X w0 w bt g h Rs Z) (hi : i < X.n)
    (hr0 : Rs[i]? = some r0) (hP : FA X Z i la) (hH : Has a (base X [(20, .pointer (some ⟨bt, 0, none⟩)), (22, .slice (some ⟨h, 0, none⟩) X.m X.m), (25, .slice (some ⟨g, 0, none⟩) X.n X.n), (26, .int .i64 (i : Int)), (27, .int .i64 la), (30, .slice tw.a tw.n tw.c)]))
    (hK : ∀ (a' : Act), Has a' (base X [(20, .pointer (some ⟨bt, 0, none⟩)), (22, .slice (some ⟨h, 0, none⟩) X.m X.m), (25, .slice (some ⟨g, 0, none⟩) X.n X.n), (26, .int .i64 (i : Int)), (30, .slice tw.a tw.n tw.c), (31, .int .u64 (rfold (X.K.map byL) (i : Int) Z r0).t)]) → Kc a' w) :
    Code.wp Try.prog (nthC 5 (in4 Try.f4)) (Exit.then (fun a w => Code.wp Try.prog (nthC 6 (in4 Try.f4)) (Exit.then Kc Q) a w) Q) a w := by
  have hbw := hS.af.below
  obtain ⟨bv, ov, tv, eV, cV, qV⟩ := hi0.atU i hi
  rw [← hbw.cell (cell_lt cV)] at cV
  obtain ⟨k0, v0, y1, y2, y3, y4, y5⟩ := hS.af.rows i r0 hr0
  rw [qV] at y3
  have hv0 : tv = r0.t := Option.some.inj y3
  have hn := hi0.hn
  have hm := hi0.hm
  rcases hP with ⟨rfl, hall⟩ | ⟨p, z, rfl, hz, hit, hall⟩
  · have HK : Hid (∀ (a' : Act), (∃ rt : Int, rt = tv ∧ Has a' (base X [(20, .pointer (some ⟨bt, 0, none⟩)), (22, .slice (some ⟨h, 0, none⟩) X.m X.m), (25, .slice (some ⟨g, 0, none⟩) X.n X.n), (26, .int .i64 (i : Int)), (30, .slice tw.a tw.n tw.c), (31, .int .u64 rt)])) → Kc a' w) := fun a' ⟨rt, e, hh⟩ => by
      refine hK a' ?_
      rw [rfold_none _ _ _ _ fun z hz => by
        obtain ⟨j, hj⟩ := List.mem_iff_getElem?.1 hz
        exact hall j z hj]
      rw [← hv0, ← e]
      exact hh
    have E : Hid (X.a2 = some ⟨bv, ov, none⟩) := eV
    obtain ⟨x, rfl, hx⟩ := hH.open
    simp only [base, List.forall_mem_cons, List.not_mem_nil, false_imp_iff, implies_true, and_true] at hx
    obtain ⟨e0, e1, e2, e3, e4, e5, e6, e7, e20, e22, e25, e26, e27, e30⟩ := hx
    unfold Fr
    simp only [e0, e1, e2, e3, e4, e5, e6, e7, e20, e22, e25, e26, e27, e30]
    clear e0 e1 e2 e3 e4 e5 e6 e7 e20 e22 e25 e26 e27 e30 hH hK hall hr0 y1 y2 y3 y4 y5 hv0 qV hbw hS hi0
    rw [eV]
    clear eV
    conv => arg 2; whnf
    go_wp2_with fail
    conv => arg 2; whnf
    go_wp2_with fail
    refine HK.out _ ⟨tv, rfl, rfl, rfl, ?_⟩
    simp only [base, List.forall_mem_cons, List.not_mem_nil, false_imp_iff, implies_true, and_true]
    rw [E.out]
    exact ⟨rfl, rfl, rfl, rfl, rfl, rfl, rfl, rfl, rfl, rfl, rfl, rfl, rfl, rfl⟩
  · have hp : p < X.m := by rw [← hS.zl]; exact (List.getElem?_eq_some_iff.1 hz).1
    obtain ⟨bs, os, ts, eS, cS, qS⟩ := hi0.atS p hp
    obtain ⟨bd, od, td, eD, cD, qD⟩ := hi0.atD p hp
    rw [← hbw.cell (cell_lt cS)] at cS
    rw [← hbw.cell (cell_lt cD)] at cD
    obtain ⟨k1, v1, x1, x2, x3, x4, x5, x6⟩ := hS.af.sc p z hz
    rw [qS] at x5
    rw [qD] at x6
    have hv1 : ts = z.2.t := Option.some.inj x5
    have hv2 : td = z.2.d := Option.some.inj x6
    have HK : Hid (∀ (a' : Act), (∃ rt : Int, (rt = if td then 0 else ts) ∧ Has a' (base X [(20, .pointer (some ⟨bt, 0, none⟩)), (22, .slice (some ⟨h, 0, none⟩) X.m X.m), (25, .slice (some ⟨g, 0, none⟩) X.n X.n), (26, .int .i64 (i : Int)), (30, .slice tw.a tw.n tw.c), (31, .int .u64 rt)])) → Kc a' w) := fun a' ⟨rt, e, hh⟩ => by
      refine hK a' ?_
      rw [law_any _ _ _ p z _ hz hit hall, ← hv1, ← hv2, ← e]
      exact hh
    have E : Hid (X.a2 = some ⟨bv, ov, none⟩ ∧ X.a6 = some ⟨bs, os, none⟩ ∧ X.a7 = some ⟨bd, od, none⟩) := ⟨eV, eS, eD⟩
    obtain ⟨x, rfl, hx⟩ := hH.open
    simp only [base, List.forall_mem_cons, List.not_mem_nil, false_imp_iff, implies_true, and_true] at hx
    obtain ⟨e0, e1, e2, e3, e4, e5, e6, e7, e20, e22, e25, e26, e27, e30⟩ := hx
    unfold Fr
    simp only [e0, e1, e2, e3, e4, e5, e6, e7, e20, e22, e25, e26, e27, e30]
    clear e0 e1 e2 e3 e4 e5 e6 e7 e20 e22 e25 e26 e27 e30 hH hK hall hr0 y1 y2 y3 y4 y5 hv0 qV x1 x2 x3 x4 x5 x6 hv1 hv2 qS qD hit hz hbw hS hi0
    rw [eV, eS, eD]
    clear eV eS eD
    conv => arg 2; whnf
    cases td
    · go_wp2_with fail
      conv => arg 2; whnf
      go_wp2_with fail
      refine HK.out _ ⟨ts, rfl, rfl, rfl, ?_⟩
      simp only [base, List.forall_mem_cons, List.not_mem_nil, false_imp_iff, implies_true, and_true]
      rw [E.out.1, E.out.2.1, E.out.2.2]
      exact ⟨rfl, rfl, rfl, rfl, rfl, rfl, rfl, rfl, rfl, rfl, rfl, rfl, rfl, rfl⟩
    · go_wp2_with fail
      conv => arg 2; whnf
      go_wp2_with fail
      refine HK.out _ ⟨0, rfl, rfl, rfl, ?_⟩
      simp only [base, List.forall_mem_cons, List.not_mem_nil, false_imp_iff, implies_true, and_true]
      rw [E.out.1, E.out.2.1, E.out.2.2]
      exact ⟨rfl, rfl, rfl, rfl, rfl, rfl, rfl, rfl, rfl, rfl, rfl, rfl, rfl, rfl⟩

theorem same_at {W : World} {s t : SL} {o : OB} (h1 : IsV W s o) (h2 : IsV W t o) : Calls Try.prog 15 #[.slice s.a s.n s.c, .slice t.a t.n t.c] W fun e w' => e = .returned (.bool true) ∧ ∃ n, w' = W.drewN n := by
  have := zzsame s t o o W h1 h2
  simpa [sameB] using this
set_option maxHeartbeats 4000000 in
theorem tC (X : Ctx) (w0 w : World) (a : Act) (bt g h i : Nat) (tw : SL) (ov : OB) (Rs : List RW) (Z : SC) (r : RW) (Q : Exit → Act → World → Prop) (Kc : Act → World → Prop) (hi0 : Inp X w0) (hS : St X w0 w bt g h Rs Z) (hi : i < X.n)
    (hr : (foldR (X.K.map byL) Z Rs)[i]? = some r) (k0 : OB) (hk0 : X.K[i]? = some k0) (hrk : IsV w r.k k0) (htw : IsV w tw ov) (hrv : IsV w r.v ov) (hH : Has a (base X [(20, .pointer (some ⟨bt, 0, none⟩)), (22, .slice (some ⟨h, 0, none⟩) X.m X.m), (25, .slice (some ⟨g, 0, none⟩) X.n X.n), (26, .int .i64 (i : Int)), (30, .slice tw.a tw.n tw.c), (31, .int .u64 r.t)]))
    (hK : ∀ (a' : Act) (n : Nat), Has a' (base X [(20, .pointer (some ⟨bt, 0, none⟩)), (22, .slice (some ⟨h, 0, none⟩) X.m X.m), (25, .slice (some ⟨g, 0, none⟩) X.n X.n), (26, .int .i64 (i : Int))]) → Kc a' (w.drewN n)) :
    Code.wp Try.prog (restC 7 (in4 Try.f4)) (Exit.then Kc Q) a w := by
  have hbw := hS.af.below
  obtain ⟨bv, ov', tv, pv, eV, cV, iV, qV⟩ := hi0.atK i hi
  rw [← hbw.cell (cell_lt cV)] at cV
  rw [hk0] at qV
  replace iV := iV.keep (Keeps.of_below hbw)
  rw [← Option.some.inj qV] at iV
  obtain ⟨mv, hT⟩ := hS.af.ts
  obtain ⟨hri, hre⟩ := List.getElem?_eq_some_iff.1 hr
  have c0 := hT.rows.c0 i hri
  have c1 := hT.rows.c1 i hri
  have c2 := hT.rows.c2 i hri
  rw [hre] at c0 c1 c2
  have hn := hi0.hn
  have S1 : Hid (∀ n, Calls Try.prog 15 #[.slice r.k.a r.k.n r.k.c, .slice tv.a tv.n tv.c] (w.drewN n) fun e w' => e = .returned (.bool true) ∧ ∃ m, w' = (w.drewN n).drewN m) := fun n => same_at hrk iV
  have S2 : Hid (∀ n, Calls Try.prog 15 #[.slice r.v.a r.v.n r.v.c, .slice tw.a tw.n tw.c] (w.drewN n) fun e w' => e = .returned (.bool true) ∧ ∃ m, w' = (w.drewN n).drewN m) := fun n => same_at hrv htw
  have HK : Hid (∀ (a' : Act) (n : Nat), Has a' (base X [(20, .pointer (some ⟨bt, 0, none⟩)), (22, .slice (some ⟨h, 0, none⟩) X.m X.m), (25, .slice (some ⟨g, 0, none⟩) X.n X.n), (26, .int .i64 (i : Int))]) → Kc a' (w.drewN n)) := hK
  have E : Hid (X.a0 = some ⟨bv, ov', none⟩) := eV
  obtain ⟨x, rfl, hx⟩ := hH.open
  simp only [base, List.forall_mem_cons, List.not_mem_nil, false_imp_iff, implies_true, and_true] at hx
  obtain ⟨e0, e1, e2, e3, e4, e5, e6, e7, e20, e22, e25, e26, e30, e31⟩ := hx
  unfold Fr
  simp only [e0, e1, e2, e3, e4, e5, e6, e7, e20, e22, e25, e26, e30, e31]
  clear e0 e1 e2 e3 e4 e5 e6 e7 e20 e22 e25 e26 e30 e31 hH hK hr hri hre hT hS hi0 hbw iV hrk htw hrv qV hk0
  rw [eV]
  clear eV
  conv => arg 2; whnf
  go_wp2_with fail
  go_quiet (first | (go_at_call 15; first | (with_reducible exact Calls.quiet_of (S1.out _)) | (with_reducible exact Calls.quiet_of (S2.out _))))
  go_wp2_with fail
  refine HK.out _ _ ⟨rfl, rfl, ?_⟩
  simp only [base, List.forall_mem_cons, List.not_mem_nil, false_imp_iff, implies_true, and_true]
  rw [E.out]
  exact ⟨rfl, rfl, rfl, rfl, rfl, rfl, rfl, rfl, rfl, rfl, rfl, rfl⟩
end Go.Proofs.Qxb6617343a
