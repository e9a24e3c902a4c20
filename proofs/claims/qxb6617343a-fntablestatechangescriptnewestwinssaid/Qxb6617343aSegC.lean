import Derived.Test.Qxb6617343aSegB
namespace Go.Proofs.Qxb6617343a
open Go.RowKit
set_option maxRecDepth 100000

/-- a script of changes, key and version -/
abbrev SC := List (List UInt8 × VR)
def foldR (KK : List (List UInt8)) (Z : SC) (R : List RW) : List RW := Z.foldl (fun R z => stepR (idxL KK z.1) z.2 R) R
def foldD (KK : List (List UInt8)) (Z : SC) (d : Bool) : Bool := Z.foldl (fun d z => stepD (idxL KK z.1) z.2 d) d
def foldM (KK : List (List UInt8)) (Z : SC) (M : AM) : AM := Z.foldl (fun M z => stepM (idxL KK z.1) z.1 z.2 M) M
theorem foldR_snoc (KK : List (List UInt8)) (Z : SC) (z : List UInt8 × VR) (R : List RW) : foldR KK (Z ++ [z]) R = stepR (idxL KK z.1) z.2 (foldR KK Z R) := by simp [foldR]
theorem foldD_snoc (KK : List (List UInt8)) (Z : SC) (z : List UInt8 × VR) (d : Bool) : foldD KK (Z ++ [z]) d = stepD (idxL KK z.1) z.2 (foldD KK Z d) := by simp [foldD]
theorem foldM_snoc (KK : List (List UInt8)) (Z : SC) (z : List UInt8 × VR) (M : AM) : foldM KK (Z ++ [z]) M = stepM (idxL KK z.1) z.1 z.2 (foldM KK Z M) := by simp [foldM]
theorem stepR_len (idx : Int) (q : VR) (R : List RW) : (stepR idx q R).length = R.length := by unfold stepR; split <;> simp
theorem stepR_k (idx : Int) (q : VR) (R : List RW) (i : Nat) (r : RW) (h : (stepR idx q R)[i]? = some r) : ∃ r', R[i]? = some r' ∧ r'.k = r.k := by
  unfold stepR at h
  split at h
  · exact ⟨r, h, rfl⟩
  · rw [List.getElem?_modify] at h
    cases hR : R[i]? with
    | none => rw [hR] at h; simp at h
    | some r' =>
      rw [hR] at h
      refine ⟨r', rfl, ?_⟩
      simp at h
      rw [← h]
      split
      · unfold rowF; split <;> rfl
      · rfl
theorem foldR_len (KK : List (List UInt8)) : ∀ (Z : SC) (R : List RW), (foldR KK Z R).length = R.length
  | [], _ => rfl
  | z :: Z, R => by
    have := foldR_len KK Z (stepR (idxL KK z.1) z.2 R)
    rw [stepR_len] at this
    exact this
theorem foldR_k (KK : List (List UInt8)) : ∀ (Z : SC) (R : List RW) (i : Nat) (r : RW), (foldR KK Z R)[i]? = some r → ∃ r', R[i]? = some r' ∧ r'.k = r.k
  | [], _, _, r, h => ⟨r, h, rfl⟩
  | z :: Z, R, i, r, h => by
    obtain ⟨r1, h1, e1⟩ := foldR_k KK Z (stepR (idxL KK z.1) z.2 R) i r h
    obtain ⟨r2, h2, e2⟩ := stepR_k _ _ _ _ _ h1
    exact ⟨r2, h2, e2.trans e1⟩

/-- the script reads as the given keys, values, numbers and marks -/
def ScriptOK (w : World) (Z : SC) (X : Ctx) : Prop :=
  ∀ (j : Nat) (z : List UInt8 × VR), Z[j]? = some z → ∃ k v, X.SK[j]? = some k ∧ z.1 = byL k ∧ X.SV[j]? = some v ∧ IsV w z.2.v v ∧ X.S[j]? = some z.2.t ∧ X.D[j]? = some z.2.d
theorem ScriptOK.keep {w w' : World} {Z : SC} {X : Ctx} (h : ScriptOK w Z X) (hk : Keeps w w') : ScriptOK w' Z X := fun j z hz => by
  obtain ⟨k, v, h1, h2, h3, h4, h5, h6⟩ := h j z hz
  exact ⟨k, v, h1, h2, h3, h4.keep hk, h5, h6⟩
theorem ScriptOK.snoc {w : World} {Z : SC} {X : Ctx} (h : ScriptOK w Z X) (q : VR) (k v : OB) (h1 : X.SK[Z.length]? = some k) (h2 : X.SV[Z.length]? = some v) (h3 : X.S[Z.length]? = some q.t) (h4 : X.D[Z.length]? = some q.d) (h5 : IsV w q.v v) : ScriptOK w (Z ++ [(byL k, q)]) X := fun j z hz => by
  by_cases hj : j < Z.length
  · rw [List.getElem?_append_left hj] at hz; exact h j z hz
  · rw [List.getElem?_append_right (by omega)] at hz
    have : j = Z.length := by
      have := (List.getElem?_eq_some_iff.1 hz).1
      simp at this; omega
    subst this
    simp at hz; subst hz
    exact ⟨k, v, h1, rfl, h2, h5, h3, h4⟩

/-- the state after a script -/
structure After (X : Ctx) (w0 w : World) (bt g : Nat) (Rs : List RW) (Z : SC) : Prop where
  below : Below w0.heap.size w0 w
  rl : Rs.length = X.n
  rows : RowsOK w Rs X
  sc : ScriptOK w Z X
  ts : ∃ mv, TS w0.heap.size w bt g (foldR (X.K.map byL) Z Rs) (foldD (X.K.map byL) Z X.d) mv (foldM (X.K.map byL) Z [])
theorem After.later {X : Ctx} {w0 w w' : World} {bt g : Nat} {Rs : List RW} {Z : SC} (h : After X w0 w bt g Rs Z) (hb : Below w.heap.size w w') : After X w0 w' bt g Rs Z :=
  ⟨h.below.trans (hb.mono h.below.size), h.rl, h.rows.keep (.of_below hb), h.sc.keep (.of_below hb), by obtain ⟨mv, hm⟩ := h.ts; exact ⟨mv, hm.below hb⟩⟩

/-- one change more -/
theorem After.change {X : Ctx} {w0 w : World} {bt g : Nat} {Rs : List RW} {Z : SC} (hI : Inp X w0) (h : After X w0 w bt g Rs Z) {t t1 : SL} {k v : OB} {u : Int} {b : Bool}
    (hk : IsV w t k) (hv : IsV w t1 v) (h1 : X.SK[Z.length]? = some k) (h2 : X.SV[Z.length]? = some v) (h3 : X.S[Z.length]? = some u) (h4 : X.D[Z.length]? = some b) {R : Ending → World → Prop}
    (hR : ∀ w', After X w0 w' bt g Rs (Z ++ [(byL k, ⟨t1, u, b⟩)]) → Below w0.heap.size w w' → R (.returned (.tuple #[])) w') :
    Calls Try.prog 12 #[.pointer (some ⟨bt, 0, none⟩), .slice t.a t.n t.c, .agg #[.slice t1.a t1.n t1.c, .int .u64 u, .bool b]] w R := by
  obtain ⟨mv, hT⟩ := h.ts
  have hlen : (foldR (X.K.map byL) Z Rs).length = X.K.length := by rw [foldR_len, h.rl, hI.lK]
  refine (change12 w0.heap.size bt g mv _ _ _ X.K t k ⟨t1, u, b⟩ w h.below.size hT (by rw [hlen, hI.lK]; exact hI.hn) hlen (fun i hi hi' => ?_) hk hI.asc).mono ?_
  · obtain ⟨r', hr', ek⟩ := foldR_k (X.K.map byL) Z Rs i _ (List.getElem?_eq_getElem hi)
    obtain ⟨k', v', hk', _, _, hv', _⟩ := h.rows i r' hr'
    rw [List.getElem?_eq_getElem hi'] at hk'
    rw [← ek, Option.some.inj hk']; exact hv'
  · rintro e w' ⟨rfl, ⟨mv', hT'⟩, hb, hkp, _⟩
    refine hR w' ⟨h.below.trans hb, h.rl, h.rows.keep hkp, ?_, ⟨mv', ?_⟩⟩ hb
    · exact (h.sc.keep hkp).snoc ⟨t1, u, b⟩ k v h1 h2 h3 h4 (hv.keep hkp)
    · rw [foldR_snoc, foldD_snoc, foldM_snoc]; exact hT'

set_option maxHeartbeats 4000000 in
theorem seg18 (X : Ctx) (w0 w : World) (a : Act) (g : Nat) (Rs : List RW) (Kc : Act → World → Prop)
    (hH : Has a (base X [(18, .slice (some ⟨g, 0, none⟩) X.n X.n)])) (hl : Rs.length = X.n)
    (hR : Row w0.heap.size w0 w g 36 (rowsC Rs)) (hO : RowsOK w Rs X)
    (hK : ∀ (a' : Act) (w' : World) (bt : Nat), Has a' (base X [(20, .pointer (some ⟨bt, 0, none⟩))]) → After X w0 w' bt g Rs [] → Kc a' w') :
    Code.wp Try.prog (seg Try.f4 18) (Exit.then Kc (bodyPost Try.prog Try.f4 (PostF w0))) a w := by
  have h11 := new11 (some ⟨g, 0, none⟩) X.n X.n X.d w
  have hb : Below w.heap.size w (w.alloc (.cells #[.slice (some ⟨g, 0, none⟩) X.n X.n, .bool X.d, .map none] 56)) := (Below.refl _ _).alloc (Nat.le_refl _) _
  have hA : After X w0 (w.alloc (.cells #[.slice (some ⟨g, 0, none⟩) X.n X.n, .bool X.d, .map none] 56)) w.heap.size g Rs [] := by
    refine ⟨hR.below.alloc hR.below.size _, hl, hO.keep (.of_below hb), fun j z hz => by simp at hz, none, hR.below.size, hR.new, ?_, ?_, fun _ => rfl, fun bm e => (by cases e), fun bm e => (by cases e)⟩
    · show _ = some (Obj.cells #[.slice (some ⟨g, 0, none⟩) Rs.length Rs.length, .bool X.d, .map none] 56 (0, 0))
      rw [hl]; exact heap_alloc_new _ _
    · show _ = _
      rw [hb.block g hR.lt]; exact hR.block
  have HC : Hid (∀ R : Ending → World → Prop, R (.returned (.pointer (some ⟨w.heap.size, 0, none⟩))) (w.alloc (.cells #[.slice (some ⟨g, 0, none⟩) X.n X.n, .bool X.d, .map none] 56)) → Calls Try.prog 11 #[.slice (some ⟨g, 0, none⟩) X.n X.n, .bool X.d, .slice none 0 0, .slice none 0 0] w R) := fun R hR => h11.mono (by rintro e w' ⟨rfl, rfl⟩; exact hR)
  have HK : Hid (∀ a' : Act, Has a' (base X [(20, .pointer (some ⟨w.heap.size, 0, none⟩))]) → Kc a' (w.alloc (.cells #[.slice (some ⟨g, 0, none⟩) X.n X.n, .bool X.d, .map none] 56))) := fun a' ha => hK a' _ _ ha hA
  obtain ⟨x, rfl, hx⟩ := hH.open
  simp only [base, List.forall_mem_cons, List.not_mem_nil, false_imp_iff, implies_true, and_true] at hx
  obtain ⟨e0, e1, e2, e3, e4, e5, e6, e7, e18⟩ := hx
  unfold Fr
  simp only [e0, e1, e2, e3, e4, e5, e6, e7, e18]
  clear e0 e1 e2 e3 e4 e5 e6 e7 e18 hH hK hA hb h11 hO hR hl
  conv => arg 2; whnf
  go_wp2_with fail
  refine HC.out _ ?_
  go_wp2_with fail
  refine HK.out _ ⟨rfl, rfl, ?_⟩
  simp only [base, List.forall_mem_cons, List.not_mem_nil, false_imp_iff, implies_true, and_true]
  exact ⟨rfl, rfl, rfl, rfl, rfl, rfl, rfl, rfl, rfl⟩

theorem keep4 {w w' : World} {p q r s : Addr} {vp vq vr vs : Value} (hb : Below w.heap.size w w') (h1 : w.cell? p = some vp) (h2 : w.cell? q = some vq) (h3 : w.cell? r = some vr) (h4 : w.cell? s = some vs) :
    w'.cell? p = some vp ∧ w'.cell? q = some vq ∧ w'.cell? r = some vr ∧ w'.cell? s = some vs := by
  refine ⟨?_, ?_, ?_, ?_⟩
  · rw [hb.cell (cell_lt h1)]; exact h1
  · rw [hb.cell (cell_lt h2)]; exact h2
  · rw [hb.cell (cell_lt h3)]; exact h3
  · rw [hb.cell (cell_lt h4)]; exact h4
theorem keep4B {B : Nat} {w w' : World} {p q r s : Addr} {vp vq vr vs : Value} (hb : Below B w w') (hl : p.block < B ∧ q.block < B ∧ r.block < B ∧ s.block < B) (h1 : w.cell? p = some vp) (h2 : w.cell? q = some vq) (h3 : w.cell? r = some vr) (h4 : w.cell? s = some vs) :
    w'.cell? p = some vp ∧ w'.cell? q = some vq ∧ w'.cell? r = some vr ∧ w'.cell? s = some vs := by
  obtain ⟨l1, l2, l3, l4⟩ := hl
  refine ⟨?_, ?_, ?_, ?_⟩
  · rw [hb.cell l1]; exact h1
  · rw [hb.cell l2]; exact h2
  · rw [hb.cell l3]; exact h3
  · rw [hb.cell l4]; exact h4

set_option maxHeartbeats 4000000 in
theorem seg19 (X : Ctx) (w0 w : World) (a : Act) (bt g : Nat) (Rs : List RW) (Kc : Act → World → Prop) (hi0 : Inp X w0)
    (hH : Has a (base X [(20, .pointer (some ⟨bt, 0, none⟩))])) (hA : After X w0 w bt g Rs [])
    (hK : ∀ (a' : Act) (w' : World) (Z : SC), Has a' (base X [(20, .pointer (some ⟨bt, 0, none⟩))]) → Z.length = X.m → After X w0 w' bt g Rs Z → Kc a' w') :
    Code.wp Try.prog (seg Try.f4 19) (Exit.then Kc (bodyPost Try.prog Try.f4 (PostF w0))) a w := by
  have HK : Hid (∀ (a' : Act) (w' : World) (Z : SC), Has a' (base X [(20, .pointer (some ⟨bt, 0, none⟩))]) → Z.length = X.m → After X w0 w' bt g Rs Z → Kc a' w') := hK
  have HI : Hid (Inp X w0) := hi0
  have HA : Hid (After X w0 w bt g Rs []) := hA
  have hm := hi0.hm
  obtain ⟨x, rfl, hx⟩ := hH.open
  simp only [base, List.forall_mem_cons, List.not_mem_nil, false_imp_iff, implies_true, and_true] at hx
  obtain ⟨e0, e1, e2, e3, e4, e5, e6, e7, e20⟩ := hx
  unfold Fr
  simp only [e0, e1, e2, e3, e4, e5, e6, e7, e20]
  clear e0 e1 e2 e3 e4 e5 e6 e7 e20 hH hA hi0 hK
  conv => arg 2; whnf
  go_wp2_with fail
  refine wp_loop (fun a w => ∃ (i : Nat) (Z : SC), i ≤ X.m ∧ Has a (base X [(20, .pointer (some ⟨bt, 0, none⟩)), (21, .int .i64 (i : Int))]) ∧ Z.length = i ∧ After X w0 w bt g Rs Z) (mu 21 X.m) ?_ ?_
  · refine ⟨0, [], Nat.zero_le _, ⟨rfl, rfl, ?_⟩, rfl, HA.out⟩
    simp only [base, List.forall_mem_cons, List.not_mem_nil, false_imp_iff, implies_true, and_true]
    exact ⟨rfl, rfl, rfl, rfl, rfl, rfl, rfl, rfl, rfl, rfl⟩
  · rintro a wr ⟨i, Z, hin, hH, hl, hA⟩
    have HA : Hid (After X w0 wr bt g Rs Z) := hA
    have HL : Hid (Z.length = i) := hl
    obtain ⟨x, rfl, hx⟩ := hH.open
    simp only [base, List.forall_mem_cons, List.not_mem_nil, false_imp_iff, implies_true, and_true] at hx
    obtain ⟨e0, e1, e2, e3, e4, e5, e6, e7, e20, e21⟩ := hx
    unfold Fr
    simp only [e0, e1, e2, e3, e4, e5, e6, e7, e20, e21]
    clear e0 e1 e2 e3 e4 e5 e6 e7 e20 e21 hH hA hl
    by_cases hlt : i < X.m
    · obtain ⟨bk, ok, tk, pk, eK, cK, iK, qK⟩ := HI.out.atSK i hlt
      obtain ⟨bv, ov, tv, pv, eV, cV, iV, qV⟩ := HI.out.atSV i hlt
      obtain ⟨bs, os, ts, eS, cS, qS⟩ := HI.out.atS i hlt
      obtain ⟨bd, od, td, eD, cD, qD⟩ := HI.out.atD i hlt
      have LT : Hid (bk < w0.heap.size ∧ bv < w0.heap.size ∧ bs < w0.heap.size ∧ bd < w0.heap.size) := ⟨cell_lt cK, cell_lt cV, cell_lt cS, cell_lt cD⟩
      rw [← HA.out.below.cell (cell_lt cK)] at cK
      rw [← HA.out.below.cell (cell_lt cV)] at cV
      rw [← HA.out.below.cell (cell_lt cS)] at cS
      rw [← HA.out.below.cell (cell_lt cD)] at cD
      have HKv : Hid (IsV wr tk pk) := iK.keep (Keeps.of_below HA.out.below)
      have HVv : Hid (IsV wr tv pv) := iV.keep (Keeps.of_below HA.out.below)
      have QK : Hid (X.SK[Z.length]? = some pk ∧ X.SV[Z.length]? = some pv ∧ X.S[Z.length]? = some ts ∧ X.D[Z.length]? = some td) := by rw [HL.out]; exact ⟨qK, qV, qS, qD⟩
      have E : Hid (X.a4 = some ⟨bk, ok, none⟩ ∧ X.a5 = some ⟨bv, ov, none⟩ ∧ X.a6 = some ⟨bs, os, none⟩ ∧ X.a7 = some ⟨bd, od, none⟩) := ⟨eK, eV, eS, eD⟩
      have hW : Below wr.heap.size wr wr.drew := (Below.refl _ _).drew
      have HW : Hid (Below wr.heap.size wr wr.drew) := hW
      clear iK iV hW qK qV qS qD
      rw [eK, eV, eS, eD]
      clear eK eV eS eD
      go_wp2_with fail
      refine wp_abstract [(0, .slice X.a0 X.n X.c0), (1, .slice X.a1 X.n X.c1), (2, .slice X.a2 X.n X.c2), (3, .bool X.d), (4, .slice (some ⟨bk, ok, none⟩) X.m X.c4), (5, .slice (some ⟨bv, ov, none⟩) X.m X.c5), (6, .slice (some ⟨bs, os, none⟩) X.m X.c6), (7, .slice (some ⟨bd, od, none⟩) X.m X.c7), (20, .pointer (some ⟨bt, 0, none⟩)), (21, .int .i64 (i : Int))] ?_ rfl ?_
      · simp only [List.forall_mem_cons, List.not_mem_nil, false_imp_iff, implies_true, and_true]
        exact ⟨rfl, rfl, rfl, rfl, rfl, rfl, rfl, rfl, rfl, rfl⟩
      intro t hsz hx
      simp only [List.forall_mem_cons, List.not_mem_nil, false_imp_iff, implies_true, and_true] at hx
      obtain ⟨f0, f1, f2, f3, ⟨_, f4⟩, ⟨_, f5⟩, ⟨_, f6⟩, ⟨_, f7⟩, ⟨_, f20⟩, ⟨_, f21⟩⟩ := hx
      have F : Hid ((∃ h, t[0]'h = .slice X.a0 X.n X.c0) ∧ (∃ h, t[1]'h = .slice X.a1 X.n X.c1) ∧ (∃ h, t[2]'h = .slice X.a2 X.n X.c2) ∧ (∃ h, t[3]'h = .bool X.d)) := ⟨f0, f1, f2, f3⟩
      clear f0 f1 f2 f3
      go_region_held3 (fun w' => w'.cell? ⟨bk, ok + i, none⟩ = some (.slice tk.a tk.n tk.c) ∧ w'.cell? ⟨bv, ov + i, none⟩ = some (.slice tv.a tv.n tv.c) ∧ w'.cell? ⟨bs, os + i, none⟩ = some (.int .u64 ts) ∧ w'.cell? ⟨bd, od + i, none⟩ = some (.bool td))
        (first | (go_split_ands; exact keep4 (by assumption) (by assumption) (by assumption) (by assumption) (by assumption)) | (go_split_ands; exact keep4B (by assumption) LT.out (by assumption) (by assumption) (by assumption) (by assumption)) | go_keep)
        (first | (go_at_call 10; ((with_reducible refine clone_at (t := tv) (o := pv) ?_ ?_); (exact HVv.out.keep (.of_below HW.out)); intro t1 w1 ht1 hb1; have HT1 : Hid (IsV w1 t1 pv ∧ Below wr.heap.size wr w1) := ⟨ht1, HW.out.trans (hb1.mono HW.out.size)⟩; clear ht1)) | (go_at_call 12; ((with_reducible refine After.change HI.out (HA.out.later HT1.out.2) (t := tk) (t1 := t1) (k := pk) (v := pv) (u := ts) (b := td) ?_ ?_ ?_ ?_ ?_ ?_ ?_); (exact HKv.out.keep (.of_below HT1.out.2)); (exact HT1.out.1); (exact QK.out.1); (exact QK.out.2.1); (exact QK.out.2.2.1); (exact QK.out.2.2.2); intro w2 ha2 hb2; have HA2 : Hid (After X w0 w2 bt g Rs (Z ++ [(byL pk, ⟨t1, ts, td⟩)])) := ha2; clear ha2)))
      rename_i hHeld
      clear hHeld cK cV cS cD
      go_wp2_with fail
      obtain ⟨e0, e1, e2, e3⟩ := E.out
      have hl := HL.out
      obtain ⟨⟨_, f0⟩, ⟨_, f1⟩, ⟨_, f2⟩, ⟨_, f3⟩⟩ := F.out
      refine ⟨⟨i + 1, _, hlt, ⟨by simp [hsz], rfl, ?_⟩, by simp [hl], HA2.out⟩, ?_⟩
      · simp [base, f0, f1, f2, f3, f4, f5, f6, f7, f20, hsz, e0, e1, e2, e3]
      · simp [mu, hsz]
        omega
    · go_wp2_with fail
      have hl := HL.out
      refine HK.out _ _ Z ⟨rfl, rfl, ?_⟩ (by omega) HA.out
      simp only [base, List.forall_mem_cons, List.not_mem_nil, false_imp_iff, implies_true, and_true]
      exact ⟨rfl, rfl, rfl, rfl, rfl, rfl, rfl, rfl, rfl⟩
end Go.Proofs.Qxb6617343a
