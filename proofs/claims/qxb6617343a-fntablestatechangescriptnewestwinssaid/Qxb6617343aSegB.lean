import Derived.Test.Qxb6617343aMake
import Derived.Deep.RegionHeld3
namespace Go.Proofs.Qxb6617343a
open Go.RowKit
set_option maxRecDepth 100000

/-- the rows read as the given keys, values and numbers -/
def RowsOK (w : World) (Rs : List RW) (X : Ctx) : Prop :=
  ∀ (j : Nat) (r : RW), Rs[j]? = some r → ∃ k v, X.K[j]? = some k ∧ X.V[j]? = some v ∧ X.U[j]? = some r.t ∧ IsV w r.k k ∧ IsV w r.v v
theorem RowsOK.keep {w w' : World} {Rs : List RW} {X : Ctx} (h : RowsOK w Rs X) (hk : Keeps w w') : RowsOK w' Rs X := fun j r hr => by
  obtain ⟨k, v, h1, h2, h3, h4, h5⟩ := h j r hr
  exact ⟨k, v, h1, h2, h3, h4.keep hk, h5.keep hk⟩
theorem RowsOK.snoc {w : World} {Rs : List RW} {X : Ctx} (h : RowsOK w Rs X) (r : RW) (k v : OB) (h1 : X.K[Rs.length]? = some k) (h2 : X.V[Rs.length]? = some v) (h3 : X.U[Rs.length]? = some r.t) (h4 : IsV w r.k k) (h5 : IsV w r.v v) : RowsOK w (Rs ++ [r]) X := fun j q hq => by
  by_cases hj : j < Rs.length
  · rw [List.getElem?_append_left hj] at hq; exact h j q hq
  · rw [List.getElem?_append_right (by omega)] at hq
    have : j = Rs.length := by
      have := (List.getElem?_eq_some_iff.1 hq).1
      simp at this; omega
    subst this
    simp at hq; subst hq
    exact ⟨k, v, h1, h2, h3, h4, h5⟩

theorem keep3 {w w' : World} {p q r : Addr} {vp vq vr : Value} (hb : Below w.heap.size w w') (h1 : w.cell? p = some vp) (h2 : w.cell? q = some vq) (h3 : w.cell? r = some vr) :
    w'.cell? p = some vp ∧ w'.cell? q = some vq ∧ w'.cell? r = some vr := by
  refine ⟨?_, ?_, ?_⟩
  · rw [hb.cell (cell_lt h1)]; exact h1
  · rw [hb.cell (cell_lt h2)]; exact h2
  · rw [hb.cell (cell_lt h3)]; exact h3
theorem cell_set3 {w : World} {p : Addr} {v : Value} (g j k l : Nat) (x y z : Value) (h : w.cell? p = some v) (hp : p.block ≠ g) :
    (((w.setCell ⟨g, j, none⟩ x).setCell ⟨g, k, none⟩ y).setCell ⟨g, l, none⟩ z).cell? p = some v := by
  rw [World.cell?_of_block (w := w)]
  · exact h
  · rw [Below.heap_setCell _ _ _ _ hp, Below.heap_setCell _ _ _ _ hp, Below.heap_setCell _ _ _ _ hp]
theorem keep3s {w : World} {p q r : Addr} {vp vq vr : Value} (g j k l : Nat) (x y z : Value) (h1 : w.cell? p = some vp) (h2 : w.cell? q = some vq) (h3 : w.cell? r = some vr) (n1 : p.block ≠ g) (n2 : q.block ≠ g) (n3 : r.block ≠ g) :
    (((w.setCell ⟨g, j, none⟩ x).setCell ⟨g, k, none⟩ y).setCell ⟨g, l, none⟩ z).cell? p = some vp ∧ (((w.setCell ⟨g, j, none⟩ x).setCell ⟨g, k, none⟩ y).setCell ⟨g, l, none⟩ z).cell? q = some vq ∧ (((w.setCell ⟨g, j, none⟩ x).setCell ⟨g, k, none⟩ y).setCell ⟨g, l, none⟩ z).cell? r = some vr :=
  ⟨cell_set3 g j k l x y z h1 n1, cell_set3 g j k l x y z h2 n2, cell_set3 g j k l x y z h3 n3⟩

theorem clone_at {W : World} {t : SL} {o : OB} {R : Ending → World → Prop} (h : IsV W t o) (hR : ∀ (t' : SL) (w' : World), IsV w' t' o → Below W.heap.size W w' → R (.returned (.slice t'.a t'.n t'.c)) w') :
    Calls Try.prog 10 #[.slice t.a t.n t.c] W R := (zzclone t o W h).mono (by rintro e w' ⟨t1, rfl, ht1, hb1⟩; exact hR t1 w' ht1 hb1)
def GF (g i : Nat) (w : World) : Prop := w.cell? ⟨g, i * 3, none⟩ = some (.slice none 0 0) ∧ w.cell? ⟨g, i * 3 + 1, none⟩ = some (.slice none 0 0) ∧ w.cell? ⟨g, i * 3 + 2, none⟩ = some (.int .u64 0) ∧ w.frozen? ⟨g, i * 3, none⟩ = false ∧ w.frozen? ⟨g, i * 3 + 1, none⟩ = false ∧ w.frozen? ⟨g, i * 3 + 2, none⟩ = false ∧ g < w.heap.size
theorem GF.below {g i : Nat} {w w' : World} (h : GF g i w) (hb : Below w.heap.size w w') : GF g i w' := by
  obtain ⟨h0, h1, h2, h3, h4, h5, h6⟩ := h
  refine ⟨?_, ?_, ?_, ?_, ?_, ?_, Nat.lt_of_lt_of_le h6 hb.size⟩
  · rw [hb.cell h6]; exact h0
  · rw [hb.cell h6]; exact h1
  · rw [hb.cell h6]; exact h2
  · rw [hb.frozen h6]; exact h3
  · rw [hb.frozen h6]; exact h4
  · rw [hb.frozen h6]; exact h5
theorem Row.later {B : Nat} {w wr w' : World} {g : Nat} {e : TypeId} {xs : List Value} (h : Row B w wr g e xs) (hb : Below wr.heap.size wr w') (hB : B ≤ wr.heap.size) : Row B w w' g e xs :=
  ⟨h.below.trans (hb.mono hB), h.new, by rw [hb.block g h.lt]; exact h.block⟩
theorem rowsC_append (A C : List RW) : rowsC (A ++ C) = rowsC A ++ rowsC C := by simp [rowsC]
theorem rowsC_set (A C : List RW) (z r : RW) :
    (((rowsC (A ++ z :: C)).set (A.length * 3) (.slice r.k.a r.k.n r.k.c)).set (A.length * 3 + 1) (.slice r.v.a r.v.n r.v.c)).set (A.length * 3 + 2) (.int .u64 r.t) = rowsC (A ++ [r] ++ C) := by
  rw [rowsC_append, List.append_assoc, rowsC_append, rowsC_append]
  have hl := rowsC_len A
  rw [List.set_append_right _ _ (by omega), List.set_append_right _ _ (by omega), List.set_append_right _ _ (by omega), hl]
  have e1 : A.length * 3 - A.length * 3 = 0 := by omega
  have e2 : A.length * 3 + 1 - A.length * 3 = 1 := by omega
  have e3 : A.length * 3 + 2 - A.length * 3 = 2 := by omega
  rw [e1, e2, e3]
  rfl
theorem Row.set3 {B : Nat} {w wr : World} {g : Nat} {A C : List RW} {z : RW} (h : Row B w wr g 36 (rowsC (A ++ z :: C))) (r : RW) :
    Row B w (((wr.setCell ⟨g, A.length * 3, none⟩ (.slice r.k.a r.k.n r.k.c)).setCell ⟨g, A.length * 3 + 1, none⟩ (.slice r.v.a r.v.n r.v.c)).setCell ⟨g, A.length * 3 + 2, none⟩ (.int .u64 r.t)) g 36 (rowsC (A ++ [r] ++ C)) ∧
    Keeps wr (((wr.setCell ⟨g, A.length * 3, none⟩ (.slice r.k.a r.k.n r.k.c)).setCell ⟨g, A.length * 3 + 1, none⟩ (.slice r.v.a r.v.n r.v.c)).setCell ⟨g, A.length * 3 + 2, none⟩ (.int .u64 r.t)) := by
  have hat : ∀ j, j < 3 → (rowsC (A ++ z :: C))[A.length * 3 + j]? = (rowC z)[j]? := fun j hj => by
    rw [rowsC_at _ A.length (by simp) j hj]; simp
  have h1 := h.set (A.length * 3) (.slice r.k.a r.k.n r.k.c)
  have h2 := h1.set (A.length * 3 + 1) (.slice r.v.a r.v.n r.v.c)
  have h3 := h2.set (A.length * 3 + 2) (.int .u64 r.t)
  rw [rowsC_set] at h3
  refine ⟨h3, (Keeps.set (v := .slice z.k.a z.k.n z.k.c) ?_ (by intro u; simp) _).trans ((Keeps.set (v := .slice z.v.a z.v.n z.v.c) ?_ (by intro u; simp) _).trans (Keeps.set (v := .int .u64 z.t) ?_ (by intro u; simp) _))⟩
  · rw [h.cell]; exact hat 0 (by omega)
  · rw [h1.cell, List.getElem?_set_ne (by omega)]; exact hat 1 (by omega)
  · rw [h2.cell, List.getElem?_set_ne (by omega), List.getElem?_set_ne (by omega)]; exact hat 2 (by omega)
/-- loop 1, where it stands at round i -/
def I1 (X : Ctx) (w0 : World) (g : Nat) (i : Nat) (Rs : List RW) (w : World) : Prop :=
  Rs.length = i ∧ Row w0.heap.size w0 w g 36 (rowsC (Rs ++ List.replicate (X.n - i) zRW)) ∧ RowsOK w Rs X
set_option maxHeartbeats 4000000 in
theorem segB (X : Ctx) (w0 w : World) (a : Act) (g : Nat) (Kc : Act → World → Prop) (hi0 : Inp X w0)
    (hH : Has a (base X [(18, .slice (some ⟨g, 0, none⟩) X.n X.n)]))
    (hR : Row w0.heap.size w0 w g 36 (rowsC (List.replicate X.n zRW)))
    (hK : ∀ (a' : Act) (w' : World) (Rs : List RW), Has a' (base X [(18, .slice (some ⟨g, 0, none⟩) X.n X.n)]) → Rs.length = X.n → Row w0.heap.size w0 w' g 36 (rowsC Rs) → RowsOK w' Rs X → Kc a' w') :
    Code.wp Try.prog (seg Try.f4 17) (Exit.then Kc (bodyPost Try.prog Try.f4 (PostF w0))) a w := by
  have HK : Hid (∀ (a' : Act) (w' : World) (Rs : List RW), Has a' (base X [(18, .slice (some ⟨g, 0, none⟩) X.n X.n)]) → Rs.length = X.n → Row w0.heap.size w0 w' g 36 (rowsC Rs) → RowsOK w' Rs X → Kc a' w') := hK
  have HI : Hid (Inp X w0) := hi0
  have HR : Hid (Row w0.heap.size w0 w g 36 (rowsC (List.replicate X.n zRW))) := hR
  have hn := hi0.hn
  obtain ⟨t, rfl, hsz, hx⟩ := hH.sym
  simp only [base, List.forall_mem_cons, List.not_mem_nil, false_imp_iff, implies_true, and_true] at hx
  obtain ⟨⟨_, f0⟩, ⟨_, f1⟩, ⟨_, f2⟩, ⟨_, f3⟩, ⟨_, f4⟩, ⟨_, f5⟩, ⟨_, f6⟩, ⟨_, f7⟩, ⟨_, f18⟩⟩ := hx
  clear hH hR hi0 hK
  conv => arg 2; whnf
  go_wp2_with fail
  refine wp_loop (fun a w => ∃ (i : Nat) (Rs : List RW), i ≤ X.n ∧ Has a (base X [(18, .slice (some ⟨g, 0, none⟩) X.n X.n), (19, .int .i64 (i : Int))]) ∧ I1 X w0 g i Rs w) (mu 19 X.n) ?_ ?_
  · refine ⟨0, [], Nat.zero_le _, ⟨by simp [hsz], rfl, ?_⟩, rfl, HR.out, fun j r h => by simp at h⟩
    simp [base, f0, f1, f2, f3, f4, f5, f6, f7, f18, hsz]
  · clear f0 f1 f2 f3 f4 f5 f6 f7 f18 hsz
    rintro a wr ⟨i, Rs, hin, hH, hl, hR, hO⟩
    have HR : Hid (Row w0.heap.size w0 wr g 36 (rowsC (Rs ++ List.replicate (X.n - i) zRW))) := hR
    have HO : Hid (RowsOK wr Rs X) := hO
    have HL : Hid (Rs.length = i) := hl
    obtain ⟨x, rfl, hx⟩ := hH.open
    simp only [base, List.forall_mem_cons, List.not_mem_nil, false_imp_iff, implies_true, and_true] at hx
    obtain ⟨e0, e1, e2, e3, e4, e5, e6, e7, e18, e19⟩ := hx
    unfold Fr
    simp only [e0, e1, e2, e3, e4, e5, e6, e7, e18, e19]
    clear e0 e1 e2 e3 e4 e5 e6 e7 e18 e19 hH hR hO hl
    by_cases hlt : i < X.n
    · obtain ⟨bk, ok, tk, pk, eK, cK, iK, qK⟩ := HI.out.atK i hlt
      obtain ⟨bv, ov, tv, pv, eV, cV, iV, qV⟩ := HI.out.atV i hlt
      obtain ⟨bu, ou, tu, eU, cU, qU⟩ := HI.out.atU i hlt
      have lk := cell_lt cK
      have lv := cell_lt cV
      have lu := cell_lt cU
      rw [← HR.out.below.cell lk] at cK
      rw [← HR.out.below.cell lv] at cV
      rw [← HR.out.below.cell lu] at cU
      have hng := HR.out.new
      have nk : bk ≠ g := by simp only at lk; omega
      have nv : bv ≠ g := by simp only at lv; omega
      have nu : bu ≠ g := by simp only at lu; omega
      have NE : Hid (bk ≠ g ∧ bv ≠ g ∧ bu ≠ g) := ⟨nk, nv, nu⟩
      replace iK := iK.keep (Keeps.of_below HR.out.below)
      replace iV := iV.keep (Keeps.of_below HR.out.below)
      have HKv : Hid (IsV wr tk pk) := iK
      have HVv : Hid (IsV wr tv pv) := iV
      have QK : Hid (X.K[i]? = some pk ∧ X.V[i]? = some pv ∧ X.U[i]? = some tu) := ⟨qK, qV, qU⟩
      have E : Hid (X.a0 = some ⟨bk, ok, none⟩ ∧ X.a1 = some ⟨bv, ov, none⟩ ∧ X.a2 = some ⟨bu, ou, none⟩) := ⟨eK, eV, eU⟩
      have hW : Below wr.heap.size wr wr.drew := (Below.refl _ _).drew
      have HW : Hid (Below wr.heap.size wr wr.drew) := hW
      have hlen : (Rs ++ List.replicate (X.n - i) zRW).length = X.n := by have := HL.out; simp; omega
      have hrow : ∀ j, j < 3 → wr.cell? ⟨g, i * 3 + j, none⟩ = (rowC zRW)[j]? := fun j hj => by
        rw [HR.out.cell, rowsC_at _ i (by omega) j hj, List.getElem_append_right (by have := HL.out; omega), List.getElem_replicate]
      have hz0 : wr.cell? ⟨g, i * 3, none⟩ = some (.slice none 0 0) := hrow 0 (by omega)
      have hz1 : wr.cell? ⟨g, i * 3 + 1, none⟩ = some (.slice none 0 0) := hrow 1 (by omega)
      have hz2 : wr.cell? ⟨g, i * 3 + 2, none⟩ = some (.int .u64 0) := hrow 2 (by omega)
      have hf0 : wr.frozen? ⟨g, i * 3, none⟩ = false := HR.out.frozen _
      have hf1 : wr.frozen? ⟨g, i * 3 + 1, none⟩ = false := HR.out.frozen _
      have hf2 : wr.frozen? ⟨g, i * 3 + 2, none⟩ = false := HR.out.frozen _
      have HG : Hid (GF g i wr) := ⟨hz0, hz1, hz2, hf0, hf1, hf2, HR.out.lt⟩
      clear iK iV hW hlen hrow qK qV qU hz0 hz1 hz2 hf0 hf1 hf2 nk nv nu lk lv lu hng
      rw [eK, eV, eU]
      clear eK eV eU
      go_wp2_with fail
      refine wp_abstract [(0, .slice (some ⟨bk, ok, none⟩) X.n X.c0), (1, .slice (some ⟨bv, ov, none⟩) X.n X.c1), (2, .slice (some ⟨bu, ou, none⟩) X.n X.c2), (3, .bool X.d), (4, .slice X.a4 X.m X.c4), (5, .slice X.a5 X.m X.c5), (6, .slice X.a6 X.m X.c6), (7, .slice X.a7 X.m X.c7), (18, .slice (some ⟨g, 0, none⟩) X.n X.n), (19, .int .i64 (i : Int))] ?_ rfl ?_
      · simp only [List.forall_mem_cons, List.not_mem_nil, false_imp_iff, implies_true, and_true]
        exact ⟨rfl, rfl, rfl, rfl, rfl, rfl, rfl, rfl, rfl, rfl⟩
      intro t hsz hx
      simp only [List.forall_mem_cons, List.not_mem_nil, false_imp_iff, implies_true, and_true] at hx
      obtain ⟨⟨_, f0⟩, ⟨_, f1⟩, ⟨_, f2⟩, f3, f4, f5, f6, f7, ⟨_, f18⟩, ⟨_, f19⟩⟩ := hx
      have F : Hid ((∃ h, t[3]'h = .bool X.d) ∧ (∃ h, t[4]'h = .slice X.a4 X.m X.c4) ∧ (∃ h, t[5]'h = .slice X.a5 X.m X.c5) ∧ (∃ h, t[6]'h = .slice X.a6 X.m X.c6) ∧ (∃ h, t[7]'h = .slice X.a7 X.m X.c7)) := ⟨f3, f4, f5, f6, f7⟩
      clear f3 f4 f5 f6 f7
      go_region_held3 (fun w' => w'.cell? ⟨bk, ok + i, none⟩ = some (.slice tk.a tk.n tk.c) ∧ w'.cell? ⟨bv, ov + i, none⟩ = some (.slice tv.a tv.n tv.c) ∧ w'.cell? ⟨bu, ou + i, none⟩ = some (.int .u64 tu))
        (first | (go_split_ands; exact keep3 (by assumption) (by assumption) (by assumption) (by assumption)) | (go_split_ands; exact keep3s _ _ _ _ _ _ _ (by assumption) (by assumption) (by assumption) NE.out.1 NE.out.2.1 NE.out.2.2) | go_keep)
        ((go_at_call 10; (first | ((with_reducible refine clone_at (t := tk) (o := pk) ?_ ?_); (exact HKv.out.keep (.of_below HW.out)); intro t1 w1 ht1 hb1; have HT1 : Hid (IsV w1 t1 pk ∧ Below wr.heap.size wr w1) := ⟨ht1, HW.out.trans (hb1.mono HW.out.size)⟩; clear ht1) | ((with_reducible refine clone_at (t := tv) (o := pv) ?_ ?_); (exact HVv.out.keep (.of_below HT1.out.2)); intro t2 w2 ht2 hb2; have HT2 : Hid (IsV w2 t2 pv ∧ IsV w2 t1 pk ∧ Below wr.heap.size wr w2) := ⟨ht2, HT1.out.1.keep (.of_below hb2), HT1.out.2.trans (hb2.mono HT1.out.2.size)⟩; obtain ⟨g0, g1, g2, g3, g4, g5, _⟩ := HG.out.below HT2.out.2.2; clear ht2 HT1))))
      rename_i hHeld
      clear hHeld g0 g1 g2 g3 g4 g5 cK cV cU
      go_wp2_with fail
      obtain ⟨e0, e1, e2⟩ := E.out
      obtain ⟨q0, q1, q2⟩ := QK.out
      have hl := HL.out
      have hr := HR.out.later HT2.out.2.2 HR.out.below.size
      have hc : List.replicate (X.n - i) zRW = zRW :: List.replicate (X.n - (i + 1)) zRW := by
        have : X.n - i = (X.n - (i + 1)) + 1 := by omega
        rw [this, List.replicate_succ]
      rw [hc] at hr
      have hs := hr.set3 ⟨t1, t2, tu⟩
      rw [hl] at hs
      refine ⟨⟨i + 1, Rs ++ [⟨t1, t2, tu⟩], hlt, ⟨by simp [hsz], rfl, ?_⟩, by simp [hl], hs.1, ?_⟩, ?_⟩
      · obtain ⟨⟨_, f3⟩, ⟨_, f4⟩, ⟨_, f5⟩, ⟨_, f6⟩, ⟨_, f7⟩⟩ := F.out
        simp [base, f0, f1, f2, f3, f4, f5, f6, f7, f18, hsz, e0, e1, e2]
      · refine ((HO.out.keep (Keeps.of_below HT2.out.2.2)).keep hs.2).snoc _ pk pv (by rw [hl]; exact q0) (by rw [hl]; exact q1) (by rw [hl]; exact q2) (HT2.out.2.1.keep hs.2) (HT2.out.1.keep hs.2)
      · simp [mu, hsz]
        omega
    · go_wp2_with fail
      have hi : i = X.n := by omega
      have hl := HL.out
      refine HK.out _ _ Rs ⟨rfl, rfl, ?_⟩ (by omega) (by have := HR.out; rw [hi] at this; simpa using this) HO.out
      simp only [base, List.forall_mem_cons, List.not_mem_nil, false_imp_iff, implies_true, and_true]
      exact ⟨rfl, rfl, rfl, rfl, rfl, rfl, rfl, rfl, rfl⟩
end Go.Proofs.Qxb6617343a
