import Derived.Test.Qxb6617343aSegC
namespace Go.Proofs.Qxb6617343a
open Go.RowKit
set_option maxRecDepth 100000

/-- of each change the row that it hits, or -1 -/
def IX (X : Ctx) (Z : SC) : List Int := Z.map fun z => idxL (X.K.map byL) z.1
def ints (L : List Int) : List Value := L.map (Value.int .i64)
def cpyI (L : List Int) (j : Nat) : List Int := L.take j ++ List.replicate (L.length - j) 0
theorem cpyI_zero (l : List Int) : cpyI l 0 = List.replicate l.length 0 := by simp [cpyI]
theorem cpyI_all (l : List Int) : cpyI l l.length = l := by simp [cpyI]
theorem cpyI_at (l : List Int) (j : Nat) (h : j < l.length) : (ints (cpyI l j))[j]? = some (.int .i64 0) := by
  have hl : (l.take j).length = j := by simp; omega
  simp only [ints, cpyI, List.getElem?_map]
  rw [List.getElem?_append_right (by omega), hl, Nat.sub_self, List.getElem?_replicate, if_pos (by omega)]
  rfl
theorem cpyI_set (l : List Int) (j : Nat) (x : Int) (h : l[j]? = some x) : (ints (cpyI l j)).set j (.int .i64 x) = ints (cpyI l (j + 1)) := by
  obtain ⟨hj, hx⟩ := List.getElem?_eq_some_iff.1 h
  have e : l.length - j = (l.length - (j + 1)) + 1 := by omega
  have hl : (l.take j).length = j := by simp; omega
  have hm : (ints (cpyI l j)).set j (.int .i64 x) = ints ((cpyI l j).set j x) := by simp [ints, List.map_set]
  rw [hm]
  unfold cpyI
  rw [List.set_append_right _ _ (by omega), hl, Nat.sub_self, e, List.replicate_succ, List.set_cons_zero, List.take_succ_eq_append_getElem hj, List.append_assoc, hx]
  rfl

theorem Below.drewN' (w : World) (n : Nat) : Below w.heap.size w (w.drewN n) := ⟨rfl, rfl, rfl, Nat.le_refl _, fun _ _ => rfl⟩
theorem find_at {X : Ctx} {w0 W : World} {t : SL} {k : OB} {R : Ending → World → Prop} (hI : Inp X w0) (hb : Below w0.heap.size w0 W) (hk : IsV W t k)
    (hR : ∀ w', Below W.heap.size W w' → R (.returned (.int .i64 (idxL (X.K.map byL) (byL k)))) w') : Calls Try.prog 13 #[.slice X.a0 X.n X.c0, .slice t.a t.n t.c] W R := by
  have hi := hI.below hb
  have := zzfind X.a0 X.c0 X.T1 X.K t k W (by rw [hi.l1, hi.lK]) hi.k hi.ik hk
  rw [hi.l1] at this
  exact this.mono (by rintro e w' ⟨rfl, n, rfl⟩; exact hR _ (Below.drewN' _ _))

set_option maxHeartbeats 4000000 in
theorem seg20 (X : Ctx) (w0 w : World) (a : Act) (bt : Nat) (Kc : Act → World → Prop) (hi0 : Inp X w0)
    (hH : Has a (base X [(20, .pointer (some ⟨bt, 0, none⟩))]))
    (hK : ∀ (a' : Act) (w' : World) (h : Nat), Has a' (base X [(20, .pointer (some ⟨bt, 0, none⟩)), (22, .slice (some ⟨h, 0, none⟩) X.m X.m)]) → Row w.heap.size w w' h 3 (ints (List.replicate X.m 0)) → Kc a' w') :
    Code.wp Try.prog (seg Try.f4 20) (Exit.then Kc (bodyPost Try.prog Try.f4 (PostF w0))) a w := by
  have hmk := make52 X.m (by have := hi0.hm; omega) w
  have hm := hi0.hm
  have HK : Hid (∀ a' : Act, Has a' (base X [(20, .pointer (some ⟨bt, 0, none⟩)), (22, .slice (some ⟨w.heap.size, 0, none⟩) X.m X.m)]) → Kc a' (w.alloc (.cells ((List.replicate X.m (0 : Int)).map (Value.int .i64)).toArray 3))) :=
    fun a' ha => hK a' _ _ ha (Row.mk0 (Below.refl _ _) (Nat.le_refl _) 3 _)
  generalize ((List.replicate X.m (0 : Int)).map (Value.int .i64)).toArray = zs at hmk HK
  obtain ⟨x, rfl, hx⟩ := hH.open
  simp only [base, List.forall_mem_cons, List.not_mem_nil, false_imp_iff, implies_true, and_true] at hx
  obtain ⟨e0, e1, e2, e3, e4, e5, e6, e7, e20⟩ := hx
  unfold Fr
  simp only [e0, e1, e2, e3, e4, e5, e6, e7, e20]
  clear e0 e1 e2 e3 e4 e5 e6 e7 e20 hH hK hi0
  conv => arg 2; whnf
  go_wp2_with fail
  refine HK.out _ ⟨rfl, rfl, ?_⟩
  simp only [base, List.forall_mem_cons, List.not_mem_nil, false_imp_iff, implies_true, and_true]
  exact ⟨rfl, rfl, rfl, rfl, rfl, rfl, rfl, rfl, rfl, rfl⟩

set_option maxHeartbeats 4000000 in
theorem seg16 (X : Ctx) (w0 w : World) (a : Act) (Kc : Act → World → Prop) (hi0 : Inp X w0)
    (hH : Has a (base X [])) (hb : Below w0.heap.size w0 w)
    (hK : ∀ (a' : Act) (w' : World) (g : Nat), Has a' (base X [(18, .slice (some ⟨g, 0, none⟩) X.n X.n)]) → Row w0.heap.size w0 w' g 36 (rowsC (List.replicate X.n zRW)) → Kc a' w') :
    Code.wp Try.prog (seg Try.f4 16) (Exit.then Kc (bodyPost Try.prog Try.f4 (PostF w0))) a w := by
  have hmk := make33 X.n hi0.hn w
  have hn := hi0.hn
  have HK : Hid (∀ a' : Act, Has a' (base X [(18, .slice (some ⟨w.heap.size, 0, none⟩) X.n X.n)]) → Kc a' (w.alloc (.cells (rowsC (List.replicate X.n zRW)).toArray 36))) :=
    fun a' ha => hK a' _ _ ha (Row.mk0 hb hb.size 36 _)
  generalize (rowsC (List.replicate X.n zRW)).toArray = zs at hmk HK
  obtain ⟨x, rfl, hx⟩ := hH.open
  simp only [base, List.forall_mem_cons, List.not_mem_nil, false_imp_iff, implies_true, and_true] at hx
  obtain ⟨e0, e1, e2, e3, e4, e5, e6, e7⟩ := hx
  unfold Fr
  simp only [e0, e1, e2, e3, e4, e5, e6, e7]
  clear e0 e1 e2 e3 e4 e5 e6 e7 hH hK hi0 hb
  conv => arg 2; whnf
  go_wp2_with fail
  refine HK.out _ ⟨rfl, rfl, ?_⟩
  simp only [base, List.forall_mem_cons, List.not_mem_nil, false_imp_iff, implies_true, and_true]
  exact ⟨rfl, rfl, rfl, rfl, rfl, rfl, rfl, rfl, rfl⟩

set_option maxHeartbeats 4000000 in
theorem seg21 (X : Ctx) (w0 w : World) (a : Act) (bt h : Nat) (Kc : Act → World → Prop)
    (hH : Has a (base X [(20, .pointer (some ⟨bt, 0, none⟩)), (22, .slice (some ⟨h, 0, none⟩) X.m X.m)]))
    (hK : ∀ (a' : Act), Has a' (base X [(20, .pointer (some ⟨bt, 0, none⟩)), (22, .slice (some ⟨h, 0, none⟩) X.m X.m), (23, .bool X.d)]) → Kc a' w) :
    Code.wp Try.prog (seg Try.f4 21) (Exit.then Kc (bodyPost Try.prog Try.f4 (PostF w0))) a w := by
  have HK : Hid (∀ (a' : Act), Has a' (base X [(20, .pointer (some ⟨bt, 0, none⟩)), (22, .slice (some ⟨h, 0, none⟩) X.m X.m), (23, .bool X.d)]) → Kc a' w) := hK
  obtain ⟨x, rfl, hx⟩ := hH.open
  simp only [base, List.forall_mem_cons, List.not_mem_nil, false_imp_iff, implies_true, and_true] at hx
  obtain ⟨e0, e1, e2, e3, e4, e5, e6, e7, e20, e22⟩ := hx
  unfold Fr
  simp only [e0, e1, e2, e3, e4, e5, e6, e7, e20, e22]
  clear e0 e1 e2 e3 e4 e5 e6 e7 e20 e22 hH hK
  conv => arg 2; whnf
  go_wp2_with fail
  refine HK.out _ ⟨rfl, rfl, ?_⟩
  simp only [base, List.forall_mem_cons, List.not_mem_nil, false_imp_iff, implies_true, and_true]
  exact ⟨rfl, rfl, rfl, rfl, rfl, rfl, rfl, rfl, rfl, rfl, rfl⟩

theorem foldD_take (KK : List (List UInt8)) (Z : SC) (d : Bool) (i : Nat) (z : List UInt8 × VR) (h : Z[i]? = some z) : foldD KK (Z.take (i + 1)) d = stepD (idxL KK z.1) z.2 (foldD KK (Z.take i) d) := by
  obtain ⟨hj, hx⟩ := List.getElem?_eq_some_iff.1 h
  rw [List.take_succ_eq_append_getElem hj, hx, foldD_snoc]

/-- loop 3 at round i -/
def I3 (X : Ctx) (wh : World) (h bt : Nat) (Z : SC) (i : Nat) (a : Act) (w : World) : Prop :=
  Has a (base X [(20, .pointer (some ⟨bt, 0, none⟩)), (22, .slice (some ⟨h, 0, none⟩) X.m X.m), (23, .bool (foldD (X.K.map byL) (Z.take i) X.d)), (24, .int .i64 (i : Int))]) ∧ Row wh.heap.size wh w h 3 (ints (cpyI (IX X Z) i))
set_option maxHeartbeats 4000000 in
theorem seg22 (X : Ctx) (w0 wh w : World) (a : Act) (bt g h : Nat) (Rs : List RW) (Z : SC) (Kc : Act → World → Prop) (hi0 : Inp X w0)
    (hH : Has a (base X [(20, .pointer (some ⟨bt, 0, none⟩)), (22, .slice (some ⟨h, 0, none⟩) X.m X.m), (23, .bool X.d)]))
    (hA : After X w0 wh bt g Rs Z) (hZ : Z.length = X.m)
    (hR : Row wh.heap.size wh w h 3 (ints (List.replicate X.m 0)))
    (hK : ∀ (a' : Act) (w' : World), Has a' (base X [(20, .pointer (some ⟨bt, 0, none⟩)), (22, .slice (some ⟨h, 0, none⟩) X.m X.m), (23, .bool (foldD (X.K.map byL) Z X.d))]) → Row wh.heap.size wh w' h 3 (ints (IX X Z)) → Kc a' w') :
    Code.wp Try.prog (seg Try.f4 22) (Exit.then Kc (bodyPost Try.prog Try.f4 (PostF w0))) a w := by
  have HK : Hid (∀ (a' : Act) (w' : World), Has a' (base X [(20, .pointer (some ⟨bt, 0, none⟩)), (22, .slice (some ⟨h, 0, none⟩) X.m X.m), (23, .bool (foldD (X.K.map byL) Z X.d))]) → Row wh.heap.size wh w' h 3 (ints (IX X Z)) → Kc a' w') := hK
  have HI : Hid (Inp X w0) := hi0
  have HA : Hid (After X w0 wh bt g Rs Z) := hA
  have HZ : Hid (Z.length = X.m) := hZ
  have HL : Hid ((IX X Z).length = X.m) := by show _ = _; rw [IX, List.length_map]; exact hZ
  have HR : Hid (Row wh.heap.size wh w h 3 (ints (cpyI (IX X Z) 0))) := by rw [cpyI_zero, HL.out]; exact hR
  have hm := hi0.hm
  obtain ⟨x, rfl, hx⟩ := hH.open
  simp only [base, List.forall_mem_cons, List.not_mem_nil, false_imp_iff, implies_true, and_true] at hx
  obtain ⟨e0, e1, e2, e3, e4, e5, e6, e7, e20, e22, e23⟩ := hx
  unfold Fr
  simp only [e0, e1, e2, e3, e4, e5, e6, e7, e20, e22, e23]
  clear e0 e1 e2 e3 e4 e5 e6 e7 e20 e22 e23 hH hA hi0 hK hR hZ
  conv => arg 2; whnf
  go_wp2_with fail
  refine wp_loop (fun a w => ∃ (i : Nat), i ≤ X.m ∧ I3 X wh h bt Z i a w) (mu 24 X.m) ?_ ?_
  · refine ⟨0, Nat.zero_le _, ⟨rfl, rfl, ?_⟩, HR.out⟩
    simp only [base, List.forall_mem_cons, List.not_mem_nil, false_imp_iff, implies_true, and_true]
    exact ⟨rfl, rfl, rfl, rfl, rfl, rfl, rfl, rfl, rfl, rfl, rfl, rfl⟩
  · rintro a wr ⟨i, hin, hH, hR⟩
    have HR : Hid (Row wh.heap.size wh wr h 3 (ints (cpyI (IX X Z) i))) := hR
    obtain ⟨D0, hD0⟩ : ∃ D0, D0 = foldD (X.K.map byL) (Z.take i) X.d := ⟨_, rfl⟩
    rw [← hD0] at hH
    have HD0 : Hid (D0 = foldD (X.K.map byL) (Z.take i) X.d) := hD0
    obtain ⟨x, rfl, hx⟩ := hH.open
    simp only [base, List.forall_mem_cons, List.not_mem_nil, false_imp_iff, implies_true, and_true] at hx
    obtain ⟨e0, e1, e2, e3, e4, e5, e6, e7, e20, e22, e23, e24⟩ := hx
    unfold Fr
    simp only [e0, e1, e2, e3, e4, e5, e6, e7, e20, e22, e23, e24]
    clear e0 e1 e2 e3 e4 e5 e6 e7 e20 e22 e23 e24 hH hR hD0
    by_cases hlt : i < X.m
    · have hbw : Below w0.heap.size w0 wr := HA.out.below.trans (HR.out.below.mono HA.out.below.size)
      obtain ⟨bk, ok, tk, pk, eK, cK, iK, qK⟩ := HI.out.atSK i hlt
      obtain ⟨bd, od, td, eD, cD, qD⟩ := HI.out.atD i hlt
      have lk := cell_lt cK
      have ld := cell_lt cD
      rw [← hbw.cell lk] at cK
      rw [← hbw.cell ld] at cD
      have hzi : i < Z.length := by rw [HZ.out]; exact hlt
      obtain ⟨k', v', q1, q2, q3, q4, q5, q6⟩ := HA.out.sc i Z[i] (List.getElem?_eq_getElem hzi)
      rw [qK] at q1
      rw [qD] at q6
      have hz1 : Z[i].1 = byL pk := by rw [q2, Option.some.inj q1]
      have hz2 : Z[i].2.d = td := (Option.some.inj q6).symm
      obtain ⟨ix, hix⟩ : ∃ ix, idxL (X.K.map byL) (byL pk) = ix := ⟨_, rfl⟩
      have HX : Hid ((IX X Z)[i]? = some ix ∧ ∀ D1, D1 = stepD ix ⟨Z[i].2.v, Z[i].2.t, td⟩ D0 → D1 = foldD (X.K.map byL) (Z.take (i + 1)) X.d) := by
        refine ⟨?_, ?_⟩
        · rw [IX, List.getElem?_map, List.getElem?_eq_getElem hzi, Option.map_some, hz1, hix]
        · intro D1 h1
          rw [foldD_take (X.K.map byL) Z X.d i Z[i] (List.getElem?_eq_getElem hzi), hz1, hix, h1, HD0.out, ← hz2]
      have HF : Hid (∀ R : Ending → World → Prop, (∀ w', Below wr.heap.size wr w' → R (.returned (.int .i64 ix)) w') → Calls Try.prog 13 #[.slice X.a0 X.n X.c0, .slice tk.a tk.n tk.c] wr R) := fun R hR => by
        refine find_at HI.out hbw (iK.keep (.of_below hbw)) (fun w' hw' => ?_)
        rw [hix]; exact hR w' hw'
      have E : Hid (X.a4 = some ⟨bk, ok, none⟩ ∧ X.a7 = some ⟨bd, od, none⟩) := ⟨eK, eD⟩
      have HLD : Hid (bd < wr.heap.size ∧ bd ≠ h) := by
        have := HR.out.new
        have h1 := HA.out.below.size
        have h2 := hbw.size
        simp only at ld
        exact ⟨by omega, by omega⟩
      have HCD : Hid (wr.cell? ⟨bd, od + i, none⟩ = some (.bool td)) := cD
      have hrg := idx_range (X.K.map byL) (byL pk) 0 (Int.le_refl _)
      rw [hix] at hrg
      have hrg' : ix = -1 ∨ ∃ k : Nat, ix = (k : Int) := by
        rcases hrg with h | ⟨k, _, h⟩
        · exact .inl h
        · exact .inr ⟨k, by rw [h]; simp⟩
      clear iK qK qD q1 q2 q3 q4 q5 q6 hz1 hz2 hix cD hrg lk ld
      rw [eK, eD]
      clear eK eD
      go_wp2_with fail
      refine HF.out _ ?_
      intro w1 hb1
      have hr1 := HR.out.later hb1 HR.out.below.size
      have c1 : w1.cell? ⟨h, i, none⟩ = some (.int .i64 0) := by rw [hr1.cell]; exact cpyI_at _ _ (by rw [HL.out]; exact hlt)
      have z1 : w1.frozen? ⟨h, i, none⟩ = false := hr1.frozen i
      have hr2 := hr1.set i (.int .i64 ix)
      rw [cpyI_set _ _ _ HX.out.1] at hr2
      have HR2 : Hid (Row wh.heap.size wh (w1.setCell ⟨h, i, none⟩ (.int .i64 ix)) h 3 (ints (cpyI (IX X Z) (i + 1)))) := hr2
      have c2 : (w1.setCell ⟨h, i, none⟩ (.int .i64 ix)).cell? ⟨h, i, none⟩ = some (.int .i64 ix) := by
        rw [(hr1.set i (.int .i64 ix)).cell, List.getElem?_set_self]
        simp [ints, cpyI, HL.out]; omega
      have c3 : (w1.setCell ⟨h, i, none⟩ (.int .i64 ix)).cell? ⟨bd, od + i, none⟩ = some (.bool td) := by
        rw [World.cell?_of_block (w := w1) (Below.heap_setCell _ _ _ _ HLD.out.2), hb1.cell HLD.out.1]; exact HCD.out
      clear hr1 hr2 hb1 HF
      rcases hrg' with rfl | ⟨k, rfl⟩
      · go_wp2_with fail
        refine ⟨⟨i + 1, hlt, ⟨rfl, rfl, ?_⟩, HR2.out⟩, ?_⟩
        · rw [← HX.out.2 D0 (by simp [stepD])]
          obtain ⟨e4, e7⟩ := E.out
          simp only [base, List.forall_mem_cons, List.not_mem_nil, false_imp_iff, implies_true, and_true]
          rw [e4, e7]
          exact ⟨rfl, rfl, rfl, rfl, rfl, rfl, rfl, rfl, rfl, rfl, rfl, rfl⟩
        · show X.m - ((i : Int) + 1).toNat < X.m - ((i : Int)).toNat
          omega
      · cases td
        · go_wp2_with fail
          refine ⟨⟨i + 1, hlt, ⟨rfl, rfl, ?_⟩, HR2.out⟩, ?_⟩
          · rw [← HX.out.2 D0 (by simp [stepD])]
            obtain ⟨e4, e7⟩ := E.out
            simp only [base, List.forall_mem_cons, List.not_mem_nil, false_imp_iff, implies_true, and_true]
            rw [e4, e7]
            exact ⟨rfl, rfl, rfl, rfl, rfl, rfl, rfl, rfl, rfl, rfl, rfl, rfl⟩
          · show X.m - ((i : Int) + 1).toNat < X.m - ((i : Int)).toNat
            omega
        · go_wp2_with fail
          refine ⟨⟨i + 1, hlt, ⟨rfl, rfl, ?_⟩, HR2.out⟩, ?_⟩
          · rw [← HX.out.2 true (by simp [stepD])]
            obtain ⟨e4, e7⟩ := E.out
            simp only [base, List.forall_mem_cons, List.not_mem_nil, false_imp_iff, implies_true, and_true]
            rw [e4, e7]
            exact ⟨rfl, rfl, rfl, rfl, rfl, rfl, rfl, rfl, rfl, rfl, rfl, rfl⟩
          · show X.m - ((i : Int) + 1).toNat < X.m - ((i : Int)).toNat
            omega
    · go_wp2_with fail
      have hi : i = X.m := by omega
      have hl := HL.out
      have hz := HZ.out
      have hr := HR.out
      have hd := HD0.out
      have h1 : Z.take i = Z := by rw [hi, ← hz]; exact List.take_length
      have h2 : cpyI (IX X Z) i = IX X Z := by rw [hi, ← hl]; exact cpyI_all _
      rw [h2] at hr
      rw [h1] at hd
      refine HK.out _ _ ⟨rfl, rfl, ?_⟩ hr
      rw [← hd]
      simp only [base, List.forall_mem_cons, List.not_mem_nil, false_imp_iff, implies_true, and_true]
      exact ⟨rfl, rfl, rfl, rfl, rfl, rfl, rfl, rfl, rfl, rfl, rfl⟩
end Go.Proofs.Qxb6617343a
