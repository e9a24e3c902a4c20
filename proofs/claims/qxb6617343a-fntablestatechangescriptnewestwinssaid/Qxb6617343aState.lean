import Derived.Test.Qxb6617343aMap
namespace Go.Proofs.Qxb6617343a
open Go.RowKit

theorem set_t : ∀ (R : List RW) (i : Nat) (h : i < R.length) (x : Int), (rowsC R).set (i * 3 + 2) (.int .u64 x) = rowsC (R.set i { R[i] with t := x })
  | [], i, h, _ => by simp at h
  | r :: R, 0, h, x => rfl
  | r :: R, i + 1, h, x => by
    have ih := set_t R i (by simpa using h) x
    have e : (i + 1) * 3 + 2 = (i * 3 + 2) + 3 := by omega
    rw [e]
    show _ :: _ :: _ :: (rowsC R).set (i * 3 + 2) (.int .u64 x) = _
    rw [ih]; rfl
theorem set_v : ∀ (R : List RW) (i : Nat) (h : i < R.length) (u : SL), (rowsC R).set (i * 3 + 1) (.slice u.a u.n u.c) = rowsC (R.set i { R[i] with v := u })
  | [], i, h, _ => by simp at h
  | r :: R, 0, h, x => rfl
  | r :: R, i + 1, h, x => by
    have ih := set_v R i (by simpa using h) x
    have e : (i + 1) * 3 + 1 = (i * 3 + 1) + 3 := by omega
    rw [e]
    show _ :: _ :: _ :: (rowsC R).set (i * 3 + 1) (.slice x.a x.n x.c) = _
    rw [ih]; rfl
theorem RAt.set {w : World} {g : Nat} {R : List RW} (h : RAt w g R) (j : Nat) (u : Value) (R' : List RW) (e : (rowsC R).set j u = rowsC R') : RAt (w.setCell ⟨g, j, none⟩ u) g R' := by
  show _ = _
  rw [heap_setCell_same w g j _ 36 u h, ← e]; simp
theorem RAt.frozen {w : World} {g : Nat} {R : List RW} (h : RAt w g R) (j : Nat) : w.frozen? ⟨g, j, none⟩ = false := frozen_of_row w g j _ 36 h

/-- the table's state in memory -/
structure TS (B : Nat) (w : World) (bt gr : Nat) (R : List RW) (d : Bool) (mv : Option Nat) (M : AM) : Prop where
  hbt : B ≤ bt
  hgr : B ≤ gr
  cell : w.heap[bt]? = some (.cells #[.slice (some ⟨gr, 0, none⟩) R.length R.length, .bool d, .map mv] 56 (0, 0))
  rows : RAt w gr R
  mapN : mv = none → M = []
  mapS : ∀ bm, mv = some bm → B ≤ bm ∧ MapIs w bm M
  mapE : ∀ bm, mv = some bm → M ≠ []
theorem upd_ne : ∀ (M : AM) (k : List UInt8) (q : VR), upd M k q ≠ []
  | [], _, _ => by simp [upd]
  | x :: r, k, q => by unfold upd; split <;> simp

section
variable {B : Nat} {w : World} {bt gr : Nat} {R : List RW} {d : Bool} {mv : Option Nat} {M : AM}
theorem TS.ne (h : TS B w bt gr R d mv M) : bt ≠ gr := by
  intro e
  have h1 := h.cell
  rw [e] at h1
  have h2 := h.rows
  unfold RAt at h2
  rw [h2] at h1
  simp at h1
theorem TS.lt (h : TS B w bt gr R d mv M) : bt < w.heap.size := (Array.getElem?_eq_some_iff.1 h.cell).1
theorem TS.c0 (h : TS B w bt gr R d mv M) : w.cell? ⟨bt, 0, none⟩ = some (.slice (some ⟨gr, 0, none⟩) R.length R.length) := by rw [cell_of_row w bt 0 _ 56 (0, 0) h.cell]; rfl
theorem TS.c1 (h : TS B w bt gr R d mv M) : w.cell? ⟨bt, 1, none⟩ = some (.bool d) := by rw [cell_of_row w bt 1 _ 56 (0, 0) h.cell]; rfl
theorem TS.c2 (h : TS B w bt gr R d mv M) : w.cell? ⟨bt, 2, none⟩ = some (.map mv) := by rw [cell_of_row w bt 2 _ 56 (0, 0) h.cell]; rfl
theorem TS.fz (h : TS B w bt gr R d mv M) (j : Nat) : w.frozen? ⟨bt, j, none⟩ = false := frozen_of_row w bt j _ 56 h.cell
theorem TS.neM (h : TS B w bt gr R d mv M) (bm : Nat) (e : mv = some bm) : bt ≠ bm ∧ gr ≠ bm ∧ bm < w.heap.size := by
  obtain ⟨_, es, clock, hb, _⟩ := h.mapS bm e
  refine ⟨fun e' => ?_, fun e' => ?_, (Array.getElem?_eq_some_iff.1 hb).1⟩
  · have h1 := h.cell; rw [e', hb] at h1; cases h1
  · have h1 := h.rows; unfold RAt at h1; rw [e', hb] at h1; cases h1
theorem TS.blocks (h : TS B w bt gr R d mv M) {w' : World} (h1 : w'.heap[bt]? = w.heap[bt]?) (h2 : w'.heap[gr]? = w.heap[gr]?) (h3 : ∀ bm, mv = some bm → w'.heap[bm]? = w.heap[bm]?) : TS B w' bt gr R d mv M :=
  ⟨h.hbt, h.hgr, h1.trans h.cell, by show _ = _; rw [h2]; exact h.rows, h.mapN, fun bm e => by
    obtain ⟨hb, es, clock, hh, he⟩ := h.mapS bm e
    exact ⟨hb, es, clock, (h3 bm e).trans hh, he⟩, h.mapE⟩
theorem TS.below (h : TS B w bt gr R d mv M) {w' : World} (hb : Below w.heap.size w w') : TS B w' bt gr R d mv M :=
  h.blocks (hb.block _ h.lt) (hb.block _ h.rows.lt) (fun bm e => hb.block _ (h.neM bm e).2.2)
end

/-- a store at a cell that holds no byte -/
theorem Keeps.set {w : World} {a : Addr} {v : Value} (h : w.cell? a = some v) (hv : ∀ u, v ≠ .int .u8 u) (x : Value) : Keeps w (w.setCell a x) := fun p u hp => by
  by_cases e : p = a
  · subst e; rw [h] at hp; exact absurd (Option.some.inj hp) (hv u)
  · rw [World.cell?_setCell_other _ _ _ _ (by first | exact e | exact Ne.symm e)]; exact hp
theorem Keeps.setM {w : World} {bm : Nat} {es : Array MapEntry} {c : Nat} (h : w.heap[bm]? = some (.map es c)) (o : Obj) : Keeps w (setM w bm o) := fun p u hp => by
  by_cases e : p.block = bm
  · subst e; simp [World.cell?, h] at hp
  · rw [World.cell?_of_block (w := w) (setM_other w bm o p.block e)]; exact hp
theorem Below.setM {B : Nat} {w w' : World} (h : Below B w w') {bm : Nat} (hb : B ≤ bm) (o : Obj) : Below B w (setM w' bm o) :=
  h.trans ⟨rfl, rfl, rfl, by rw [setM_size]; exact Nat.le_refl _, fun k hk => setM_other _ _ _ _ (by omega)⟩

section
variable {B : Nat} {w : World} {bt gr : Nat} {R : List RW} {d : Bool} {mv : Option Nat} {M : AM}
theorem TS.setD (h : TS B w bt gr R d mv M) (x : Bool) : TS B (w.setCell ⟨bt, 1, none⟩ (.bool x)) bt gr R x mv M :=
  ⟨h.hbt, h.hgr, by rw [heap_setCell_same w bt 1 _ 56 _ h.cell]; rfl, by show _ = _; rw [Below.heap_setCell _ _ _ _ (Ne.symm h.ne)]; exact h.rows, h.mapN, fun bm e => by
    obtain ⟨hb, es, clock, hh, he⟩ := h.mapS bm e
    exact ⟨hb, es, clock, by rw [Below.heap_setCell _ _ _ _ (Ne.symm (h.neM bm e).1)]; exact hh, he⟩, h.mapE⟩
theorem TS.setM (h : TS B w bt gr R d mv M) (bm : Nat) (hb : B ≤ bm) (M' : AM) (hm : MapIs w bm M') (hne' : M' ≠ []) : TS B (w.setCell ⟨bt, 2, none⟩ (.map (some bm))) bt gr R d (some bm) M' := by
  have hne : bt ≠ bm := by
    intro e; obtain ⟨es, clock, hh, _⟩ := hm
    have h1 := h.cell; rw [e, hh] at h1; cases h1
  refine ⟨h.hbt, h.hgr, by rw [heap_setCell_same w bt 2 _ 56 _ h.cell]; rfl, by show _ = _; rw [Below.heap_setCell _ _ _ _ (Ne.symm h.ne)]; exact h.rows, fun e => (by cases e), fun b e => ?_, fun _ _ => hne'⟩
  injection e with e; subst e
  obtain ⟨es, clock, hh, he⟩ := hm
  exact ⟨hb, es, clock, by rw [Below.heap_setCell _ _ _ _ (Ne.symm hne)]; exact hh, he⟩
theorem TS.setR (h : TS B w bt gr R d mv M) (j : Nat) (u : Value) (R' : List RW) (e : (rowsC R).set j u = rowsC R') (hl : R'.length = R.length) : TS B (w.setCell ⟨gr, j, none⟩ u) bt gr R' d mv M :=
  ⟨h.hbt, h.hgr, by rw [hl, Below.heap_setCell _ _ _ _ h.ne]; exact h.cell, h.rows.set j u R' e, h.mapN, fun bm e => by
    obtain ⟨hb, es, clock, hh, he⟩ := h.mapS bm e
    exact ⟨hb, es, clock, by rw [Below.heap_setCell _ _ _ _ (Ne.symm (h.neM bm e).2.1)]; exact hh, he⟩, h.mapE⟩
theorem TS.upM {bm : Nat} (h : TS B w bt gr R d (some bm) M) (o : Obj) (M' : AM) (hm : MapIs (Go.Proofs.Qxb6617343a.setM w bm o) bm M') (hne' : M' ≠ []) : TS B (Go.Proofs.Qxb6617343a.setM w bm o) bt gr R d (some bm) M' := by
  obtain ⟨h1, h2, h3⟩ := h.neM bm rfl
  refine ⟨h.hbt, h.hgr, by rw [setM_other _ _ _ _ h1]; exact h.cell, by show _ = _; rw [setM_other _ _ _ _ h2]; exact h.rows, fun e => (by cases e), fun b e => ?_, fun _ _ => hne'⟩
  injection e with e; subst e
  exact ⟨(h.mapS bm rfl).1, hm⟩
end
end Go.Proofs.Qxb6617343a
