import Derived.Test.Qxb6617343aState
import Derived.Deep.RegionHeld3
import Derived.Carry
import Derived.Laws.BytesArg
namespace Go.Proofs.Qxb6617343a
open Go.RowKit

/-- 'string(key)' -/
theorem conv_key (a : Option Addr) (c : Nat) (bs : List UInt8) (w : World) (h : BAt w a bs) :
    (convert 26 9 (.slice a bs.length c)).run Try.prog w = .ok (.string (sb bs)) w := by
  cases a with
  | none =>
    have h0 : bs = [] := by
      by_cases h0 : 0 < bs.length
      · obtain ⟨b, off, e, _⟩ := h.2 h0; cases e
      · exact List.eq_nil_of_length_eq_zero (by omega)
    subst h0
    exact run_convert_bytes_nil w 26 5 Try.underlying26 Try.underlying5 0 c 9 Try.underlying9
  | some x =>
    by_cases h0 : 0 < bs.length
    · obtain ⟨b, off, e, hc⟩ := h.2 h0
      injection e with e; subst e
      have := run_convert_bytes_arg (P := Try.prog) w 26 5 Try.underlying26 Try.underlying5 b off bs.length c (bs.map fun u => (u.toNat : Int)) (by simp)
        (fun i hi => by rw [hc i hi]; simp [List.getD, hi]) 9 Try.underlying9
      rw [this]
      have e2 : strOfNums (bs.map fun u => (u.toNat : Int)) = sb bs := by simp [strOfNums, sb, List.map_map, Function.comp_def]
      rw [e2]
    · have h1 : bs = [] := List.eq_nil_of_length_eq_zero (by omega)
      subst h1
      rw [run_convert_bytes_string w 26 9 5 (some x) _ c Try.underlying26 Try.underlying5 Try.underlying9]
      have hl : (loadCells x 0).run Try.prog w = .ok (([] : List Int).map (Value.int .u8)).toArray w := by
        have := run_loadCells_list (P := Try.prog) w x [] (fun j v hj => by simp at hj)
        simpa using this
      have := run_bytesToString (P := Try.prog) w x 0 c [] hl
      rw [show ([] : List UInt8).length = 0 from rfl, this]; rfl

theorem map_nil (mv : Option Nat) (w : World) : (binOp .eql 54 (.map mv) (.map none)).run Try.prog w = .ok (.bool mv.isNone) w := by
  simp only [binOp]
  simp [run_equal_map_nil w 54 9 58 mv Try.underlying54]
/-- the box that holds the version -/
def boxC (q : VR) : Obj := .cells #[.slice q.v.a q.v.n q.v.c, .int .u64 q.t, .bool q.d] 58

/-- what 'change' leaves -/
def Z23 (B : Nat) (bt gr : Nat) (R' : List RW) (d' : Bool) (M' : AM) (w : World) (e : Ending) (w' : World) : Prop :=
  e = .returned (.tuple #[]) ∧ (∃ mv', TS B w' bt gr R' d' mv' M') ∧ Below B w w' ∧ Keeps w w' ∧ w.heap.size ≤ w'.heap.size

set_option maxHeartbeats 2000000 in
/-- no row holds the key, and there is no map yet -/
theorem change_nil (B bt gr : Nat) (R : List RW) (d : Bool) (M : AM) (K : List OB) (t : SL) (p : OB) (q : VR) (w : World) (hB : B ≤ w.heap.size) (hT : TS B w bt gr R d none M) (hn : R.length ≤ 4096) (hl : R.length = K.length)
    (hK : ∀ (i : Nat) (h : i < R.length) (h' : i < K.length), IsV w R[i].k K[i]) (hp : IsV w t p) (hA : Asc K) (hi : idxL (K.map byL) (byL p) = -1) :
    Calls Try.prog 23 #[.pointer (some ⟨bt, 0, none⟩), .slice t.a t.n t.c, .agg #[.slice q.v.a q.v.n q.v.c, .int .u64 q.t, .bool q.d]] w fun e w' => Z23 B bt gr R d (upd M (byL p) q) w e w' := by
  have hb1 : Below w.heap.size w (w.alloc (boxC q)) := (Below.refl _ _).alloc (Nat.le_refl _) _
  have hT1 := hT.below hb1
  have hS := search24 gr R.length R K t p (w.alloc (boxC q)) hn hl hT1.rows (fun i h h' => (hK i h h').keep (Keeps.of_below hb1)) (hp.keep (Keeps.of_below hb1)) hA
  have HS : Hid (Calls Try.prog 24 #[.slice (some ⟨gr, 0, none⟩) R.length R.length, .slice t.a t.n t.c, .func (.func 25) #[] #[]] (w.alloc (boxC q)) fun e w' => Z24 K (byL p) (w.alloc (boxC q)) e w') := hS
  have c0 := hT1.c0
  have c2 := hT1.c2
  have HT : Hid (TS B w bt gr R d none M) := hT
  have HP : Hid (IsV w t p) := hp
  have HI : Hid (idxL (K.map byL) (byL p) = -1) := hi
  have HB1 : Hid (Below w.heap.size w (w.alloc (boxC q))) := hb1
  clear hT hS hK hp hA hi hl hb1 hT1
  unfold boxC at c0 c2
  have hmn := map_nil none
  go_enter Try.func23, Try.ntmps23
  go_wp2_with fail
  refine HS.out.mono ?_
  rintro e w2 ⟨i, b, rfl, hb2, hr⟩
  obtain rfl : b = false := by
    rcases hr with ⟨_, _, h⟩ | ⟨h, _⟩
    · rw [HI.out] at h; omega
    · exact h
  clear hr HS
  have hbw2 : Below w.heap.size w w2 := HB1.out.trans (hb2.mono (by simp))
  have hT2 := HT.out.below hbw2
  have d2 := hT2.c2
  have hsz : w.heap.size < (w.alloc (boxC q)).heap.size := by simp
  have hbox : w2.heap[w.heap.size]? = some (boxC q) := by rw [hb2.block _ hsz]; exact heap_alloc_new _ _
  have x0 : ∀ o, (w2.alloc o).cell? ⟨w.heap.size, 0, none⟩ = some (.slice q.v.a q.v.n q.v.c) := fun o => by
    rw [Below.cell ((Below.refl w2.heap.size w2).alloc (Nat.le_refl _) o) (p := ⟨w.heap.size, 0, none⟩) (Array.getElem?_eq_some_iff.1 hbox).1, cell_of_row w2 _ 0 _ 58 (0, 0) hbox]; rfl
  have x1 : ∀ o, (w2.alloc o).cell? ⟨w.heap.size, 1, none⟩ = some (.int .u64 q.t) := fun o => by
    rw [Below.cell ((Below.refl w2.heap.size w2).alloc (Nat.le_refl _) o) (p := ⟨w.heap.size, 1, none⟩) (Array.getElem?_eq_some_iff.1 hbox).1, cell_of_row w2 _ 1 _ 58 (0, 0) hbox]; rfl
  have x2 : ∀ o, (w2.alloc o).cell? ⟨w.heap.size, 2, none⟩ = some (.bool q.d) := fun o => by
    rw [Below.cell ((Below.refl w2.heap.size w2).alloc (Nat.le_refl _) o) (p := ⟨w.heap.size, 2, none⟩) (Array.getElem?_eq_some_iff.1 hbox).1, cell_of_row w2 _ 2 _ 58 (0, 0) hbox]; rfl
  have hb3 : Below w2.heap.size w2 (w2.alloc (.map #[] 0)) := (Below.refl _ _).alloc (Nat.le_refl _) _
  have hV3 : IsV (w2.alloc (.map #[] 0)) t p := (HP.out.keep (Keeps.of_below hbw2)).keep (Keeps.of_below hb3)
  have hcv := conv_key t.a t.c (byL p) (w2.alloc (.map #[] 0)) hV3.2.2
  rw [← hV3.1] at hcv
  have hm0 : MapIs (w2.alloc (.map #[] 0)) w2.heap.size [] := ⟨#[], 0, heap_alloc_new _ _, rfl⟩
  obtain ⟨o, hup, hm⟩ := update_is _ _ [] (byL p) q hm0
  have hup' : (Instr.mapUpdate 54 (.map (some w2.heap.size)) (.string (sb (byL p))) (.agg #[.slice q.v.a q.v.n q.v.c, .int .u64 q.t, .bool q.d])).run Try.prog (w2.alloc (.map #[] 0)) = .ok () (setM (w2.alloc (.map #[] 0)) w2.heap.size o) := hup
  have hmk := @run_makeMap Try.prog
  have hT3 := hT2.below hb3
  have hT4 : TS B (setM (w2.alloc (.map #[] 0)) w2.heap.size o) bt gr R d none M :=
    hT3.blocks (setM_other _ _ _ _ (Nat.ne_of_lt hT2.lt)) (setM_other _ _ _ _ (Nat.ne_of_lt hT2.rows.lt)) (fun bm e => by cases e)
  have hK4 : Keeps (w2.alloc (.map #[] 0)) (setM (w2.alloc (.map #[] 0)) w2.heap.size o) := Keeps.setM (heap_alloc_new _ _) o
  have e2 := hT4.c2
  have ef := hT4.fz 2
  have hB2 : B ≤ w2.heap.size := Nat.le_trans hB hbw2.size
  have hT5 := hT4.setM w2.heap.size hB2 _ hm (upd_ne _ _ _)
  have hM0 : M = [] := HT.out.mapN rfl
  have HF : Hid (Z23 B bt gr R d (upd M (byL p) q) w (.returned (.tuple #[])) ((setM (w2.alloc (.map #[] 0)) w2.heap.size o).setCell ⟨bt, 2, none⟩ (.map (some w2.heap.size)))) := by
    refine ⟨rfl, ⟨some w2.heap.size, by rw [hM0]; exact hT5⟩, ?_, ?_, ?_⟩
    · exact (Below.setM ((hbw2.mono hB).trans (hb3.mono hB2)) hB2 o).setCell HT.out.hbt _
    · exact (((Keeps.of_below hbw2).trans (Keeps.of_below hb3)).trans hK4).trans (Keeps.set e2 (fun u => by simp) _)
    · have h1 := hbw2.size
      have h2 := hb3.size
      have h3 : ((setM (w2.alloc (.map #[] 0)) w2.heap.size o).setCell ⟨bt, 2, none⟩ (.map (some w2.heap.size))).heap.size = (w2.alloc (.map #[] 0)).heap.size := by simp [World.setCell, setM_size]
      omega
  clear hT2 hbox hb3 hV3 hm0 hup hm hT3 hT4 hK4 hT5 hM0 hsz hB2 hbw2 hb2 c0 c2
  generalize setM (w2.alloc (.map #[] 0)) w2.heap.size o = w4 at hup' e2 ef HF
  go_wp2
  go_end0
  exact HF.out
set_option maxHeartbeats 2000000 in
/-- no row holds the key, and there is a map -/
theorem change_map (B bt gr bm : Nat) (R : List RW) (d : Bool) (M : AM) (K : List OB) (t : SL) (p : OB) (q : VR) (w : World) (hB : B ≤ w.heap.size) (hT : TS B w bt gr R d (some bm) M) (hn : R.length ≤ 4096) (hl : R.length = K.length)
    (hK : ∀ (i : Nat) (h : i < R.length) (h' : i < K.length), IsV w R[i].k K[i]) (hp : IsV w t p) (hA : Asc K) (hi : idxL (K.map byL) (byL p) = -1) :
    Calls Try.prog 23 #[.pointer (some ⟨bt, 0, none⟩), .slice t.a t.n t.c, .agg #[.slice q.v.a q.v.n q.v.c, .int .u64 q.t, .bool q.d]] w fun e w' => Z23 B bt gr R d (upd M (byL p) q) w e w' := by
  have hb1 : Below w.heap.size w (w.alloc (boxC q)) := (Below.refl _ _).alloc (Nat.le_refl _) _
  have hT1 := hT.below hb1
  have hS := search24 gr R.length R K t p (w.alloc (boxC q)) hn hl hT1.rows (fun i h h' => (hK i h h').keep (Keeps.of_below hb1)) (hp.keep (Keeps.of_below hb1)) hA
  have HS : Hid (Calls Try.prog 24 #[.slice (some ⟨gr, 0, none⟩) R.length R.length, .slice t.a t.n t.c, .func (.func 25) #[] #[]] (w.alloc (boxC q)) fun e w' => Z24 K (byL p) (w.alloc (boxC q)) e w') := hS
  have c0 := hT1.c0
  have c2 := hT1.c2
  have HT : Hid (TS B w bt gr R d (some bm) M) := hT
  have HP : Hid (IsV w t p) := hp
  have HI : Hid (idxL (K.map byL) (byL p) = -1) := hi
  have HB1 : Hid (Below w.heap.size w (w.alloc (boxC q))) := hb1
  clear hT hS hK hp hA hi hl hb1 hT1
  unfold boxC at c0 c2
  have hmn := map_nil (some bm)
  go_enter Try.func23, Try.ntmps23
  go_wp2_with fail
  refine HS.out.mono ?_
  rintro e w2 ⟨i, b, rfl, hb2, hr⟩
  obtain rfl : b = false := by
    rcases hr with ⟨_, _, h⟩ | ⟨h, _⟩
    · rw [HI.out] at h; omega
    · exact h
  clear hr HS
  have hbw2 : Below w.heap.size w w2 := HB1.out.trans (hb2.mono (by simp))
  have hT2 := HT.out.below hbw2
  have d2 := hT2.c2
  have hsz : w.heap.size < (w.alloc (boxC q)).heap.size := by simp
  have hbox : w2.heap[w.heap.size]? = some (boxC q) := by rw [hb2.block _ hsz]; exact heap_alloc_new _ _
  have x0 : w2.cell? ⟨w.heap.size, 0, none⟩ = some (.slice q.v.a q.v.n q.v.c) := by rw [cell_of_row w2 _ 0 _ 58 (0, 0) hbox]; rfl
  have x1 : w2.cell? ⟨w.heap.size, 1, none⟩ = some (.int .u64 q.t) := by rw [cell_of_row w2 _ 1 _ 58 (0, 0) hbox]; rfl
  have x2 : w2.cell? ⟨w.heap.size, 2, none⟩ = some (.bool q.d) := by rw [cell_of_row w2 _ 2 _ 58 (0, 0) hbox]; rfl
  have hV3 : IsV w2 t p := HP.out.keep (Keeps.of_below hbw2)
  have hcv : ∀ W : World, W.heap = w2.heap → (convert 26 9 (.slice t.a t.n t.c)).run Try.prog W = .ok (.string (sb (byL p))) W := fun W hW => by
    have := conv_key t.a t.c (byL p) W (hV3.2.2.keep (fun a u h => by rw [World.cell?_of_block (w := w2) (by rw [hW])]; exact h))
    rw [← hV3.1] at this; exact this
  obtain ⟨hBm, es, clock, hh, he⟩ := hT2.mapS bm rfl
  obtain ⟨es', c', he', hr⟩ := update_gen es clock M (byL p) q he
  have hup : ∀ W : World, W.heap = w2.heap → (Instr.mapUpdate 54 (.map (some bm)) (.string (sb (byL p))) (.agg #[.slice q.v.a q.v.n q.v.c, .int .u64 q.t, .bool q.d])).run Try.prog W = .ok () (setM W bm (.map es' c')) := fun W hW => hr W bm (by rw [hW]; exact hh)
  have hT4 : TS B (setM w2 bm (.map es' c')) bt gr R d (some bm) (upd M (byL p) q) := hT2.upM _ _ ⟨es', c', (MapKept.heap_set hh).1, he'⟩ (upd_ne _ _ _)
  have HF : Hid (∀ W : World, W.heap = w2.heap → W.os = w2.os → W.tape = w2.tape → W.output = w2.output → Z23 B bt gr R d (upd M (byL p) q) w (.returned (.tuple #[])) (setM W bm (.map es' c'))) := by
    intro W h1 h2 h3 h4
    have hbW : Below w.heap.size w W := hbw2.trans ⟨h2, h3, h4, by rw [h1]; exact Nat.le_refl _, fun k _ => by rw [h1]⟩
    have hhe : (setM W bm (.map es' c')).heap = (setM w2 bm (.map es' c')).heap := by simp [setM, h1]
    refine ⟨rfl, ⟨some bm, hT4.blocks (by rw [hhe]) (by rw [hhe]) (fun _ _ => by rw [hhe])⟩, Below.setM (hbW.mono hB) hBm _, (Keeps.of_below hbW).trans (Keeps.setM (by rw [h1]; exact hh) _), ?_⟩
    rw [setM_size]; exact hbW.size
  have hcv' := hcv w2.drew rfl
  have hup' := hup w2.drew rfl
  clear hT2 hbox hV3 hh he he' hr hT4 hsz hbw2 hb2 c0 c2 hcv hup
  go_wp2
  go_region
  all_goals go_wp2
  all_goals go_end0
  all_goals exact HF.out w2.drew rfl rfl rfl rfl

set_option maxHeartbeats 2000000 in
/-- a row holds the key; the change deletes -/
theorem change_del (B bt gr : Nat) (mv : Option Nat) (R : List RW) (d : Bool) (M : AM) (K : List OB) (t : SL) (p : OB) (q : VR) (w : World) (hB : B ≤ w.heap.size) (hT : TS B w bt gr R d mv M) (hn : R.length ≤ 4096) (hl : R.length = K.length)
    (hK : ∀ (i : Nat) (h : i < R.length) (h' : i < K.length), IsV w R[i].k K[i]) (hp : IsV w t p) (hA : Asc K) (i : Nat) (hir : i < R.length) (hi : idxL (K.map byL) (byL p) = i) (hd : q.d = true) :
    Calls Try.prog 23 #[.pointer (some ⟨bt, 0, none⟩), .slice t.a t.n t.c, .agg #[.slice q.v.a q.v.n q.v.c, .int .u64 q.t, .bool q.d]] w fun e w' => Z23 B bt gr (R.set i { R[i] with t := 0 }) true M w e w' := by
  have hb1 : Below w.heap.size w (w.alloc (boxC q)) := (Below.refl _ _).alloc (Nat.le_refl _) _
  have hT1 := hT.below hb1
  have hS := search24 gr R.length R K t p (w.alloc (boxC q)) hn hl hT1.rows (fun i h h' => (hK i h h').keep (Keeps.of_below hb1)) (hp.keep (Keeps.of_below hb1)) hA
  have HS : Hid (Calls Try.prog 24 #[.slice (some ⟨gr, 0, none⟩) R.length R.length, .slice t.a t.n t.c, .func (.func 25) #[] #[]] (w.alloc (boxC q)) fun e w' => Z24 K (byL p) (w.alloc (boxC q)) e w') := hS
  have c0 := hT1.c0
  have HT : Hid (TS B w bt gr R d mv M) := hT
  have HP : Hid (IsV w t p) := hp
  have HI : Hid (idxL (K.map byL) (byL p) = i) := hi
  have HB1 : Hid (Below w.heap.size w (w.alloc (boxC q))) := hb1
  have HD : Hid (q.d = true) := hd
  clear hT hS hK hp hA hi hl hb1 hT1 hd
  unfold boxC at c0
  go_enter Try.func23, Try.ntmps23
  go_wp2_with fail
  refine HS.out.mono ?_
  rintro e w2 ⟨i', b, rfl, hb2, hr⟩
  obtain ⟨rfl, rfl⟩ : b = true ∧ i' = i := by
    rcases hr with ⟨h0, _, h⟩ | ⟨_, h⟩
    · rw [HI.out] at h; exact ⟨h0, by omega⟩
    · rw [HI.out] at h; omega
  clear hr HS
  have hbw2 : Below w.heap.size w w2 := HB1.out.trans (hb2.mono (by simp))
  have hT2 := HT.out.below hbw2
  have hsz : w.heap.size < (w.alloc (boxC q)).heap.size := by simp
  have hbox : w2.heap[w.heap.size]? = some (boxC q) := by rw [hb2.block _ hsz]; exact heap_alloc_new _ _
  have x0 : w2.cell? ⟨w.heap.size, 0, none⟩ = some (.slice q.v.a q.v.n q.v.c) := by rw [cell_of_row w2 _ 0 _ 58 (0, 0) hbox]; rfl
  have x1 : w2.cell? ⟨w.heap.size, 1, none⟩ = some (.int .u64 q.t) := by rw [cell_of_row w2 _ 1 _ 58 (0, 0) hbox]; rfl
  have x2 : w2.cell? ⟨w.heap.size, 2, none⟩ = some (.bool q.d) := by rw [cell_of_row w2 _ 2 _ 58 (0, 0) hbox]; rfl
  have r0 := hT2.c0
  have f1 := hT2.rows.c1 i' hir
  have f2 := hT2.rows.c2 i' hir
  have z1 := hT2.rows.frozen (i' * 3 + 1)
  have z2 := hT2.rows.frozen (i' * 3 + 2)
  have hne := hT2.ne
  rw [HD.out] at x2
  have t1 := hT2.c1
  have hT3 := hT2.setR (i' * 3 + 2) (.int .u64 0) _ (set_t R i' hir 0) (by simp)
  have t1' := hT3.c1
  have tz := hT3.fz 1
  have hT4 := hT3.setD true
  have HF : Hid (Z23 B bt gr (R.set i' { R[i'] with t := 0 }) true M w (.returned (.tuple #[])) ((w2.setCell ⟨gr, i' * 3 + 2, none⟩ (.int .u64 0)).setCell ⟨bt, 1, none⟩ (.bool true))) := by
    refine ⟨rfl, ⟨mv, hT4⟩, ((hbw2.mono hB).setCell hT2.hgr _).setCell hT2.hbt _, ((Keeps.of_below hbw2).trans (Keeps.set f2 (fun u => by simp) _)).trans (Keeps.set t1' (fun u => by simp) _), ?_⟩
    have h1 := hbw2.size
    simpa [World.setCell] using h1
  clear hT2 hbox hT3 hT4 hsz hbw2 hb2 c0
  go_wp2
  go_end0
  exact HF.out

set_option maxHeartbeats 2000000 in
/-- a row holds the key; the change puts -/
theorem change_put (B bt gr : Nat) (mv : Option Nat) (R : List RW) (d : Bool) (M : AM) (K : List OB) (t : SL) (p : OB) (q : VR) (w : World) (hB : B ≤ w.heap.size) (hT : TS B w bt gr R d mv M) (hn : R.length ≤ 4096) (hl : R.length = K.length)
    (hK : ∀ (i : Nat) (h : i < R.length) (h' : i < K.length), IsV w R[i].k K[i]) (hp : IsV w t p) (hA : Asc K) (i : Nat) (hir : i < R.length) (hi : idxL (K.map byL) (byL p) = i) (hd : q.d = false) :
    Calls Try.prog 23 #[.pointer (some ⟨bt, 0, none⟩), .slice t.a t.n t.c, .agg #[.slice q.v.a q.v.n q.v.c, .int .u64 q.t, .bool q.d]] w fun e w' => Z23 B bt gr (R.set i { k := R[i].k, v := q.v, t := q.t }) d M w e w' := by
  have hb1 : Below w.heap.size w (w.alloc (boxC q)) := (Below.refl _ _).alloc (Nat.le_refl _) _
  have hT1 := hT.below hb1
  have hS := search24 gr R.length R K t p (w.alloc (boxC q)) hn hl hT1.rows (fun i h h' => (hK i h h').keep (Keeps.of_below hb1)) (hp.keep (Keeps.of_below hb1)) hA
  have HS : Hid (Calls Try.prog 24 #[.slice (some ⟨gr, 0, none⟩) R.length R.length, .slice t.a t.n t.c, .func (.func 25) #[] #[]] (w.alloc (boxC q)) fun e w' => Z24 K (byL p) (w.alloc (boxC q)) e w') := hS
  have c0 := hT1.c0
  have HT : Hid (TS B w bt gr R d mv M) := hT
  have HP : Hid (IsV w t p) := hp
  have HI : Hid (idxL (K.map byL) (byL p) = i) := hi
  have HB1 : Hid (Below w.heap.size w (w.alloc (boxC q))) := hb1
  have HD : Hid (q.d = false) := hd
  clear hT hS hK hp hA hi hl hb1 hT1 hd
  unfold boxC at c0
  go_enter Try.func23, Try.ntmps23
  go_wp2_with fail
  refine HS.out.mono ?_
  rintro e w2 ⟨i', b, rfl, hb2, hr⟩
  obtain ⟨rfl, rfl⟩ : b = true ∧ i' = i := by
    rcases hr with ⟨h0, _, h⟩ | ⟨_, h⟩
    · rw [HI.out] at h; exact ⟨h0, by omega⟩
    · rw [HI.out] at h; omega
  clear hr HS
  have hbw2 : Below w.heap.size w w2 := HB1.out.trans (hb2.mono (by simp))
  have hT2 := HT.out.below hbw2
  have hsz : w.heap.size < (w.alloc (boxC q)).heap.size := by simp
  have hbox : w2.heap[w.heap.size]? = some (boxC q) := by rw [hb2.block _ hsz]; exact heap_alloc_new _ _
  have x0 : w2.cell? ⟨w.heap.size, 0, none⟩ = some (.slice q.v.a q.v.n q.v.c) := by rw [cell_of_row w2 _ 0 _ 58 (0, 0) hbox]; rfl
  have x1 : w2.cell? ⟨w.heap.size, 1, none⟩ = some (.int .u64 q.t) := by rw [cell_of_row w2 _ 1 _ 58 (0, 0) hbox]; rfl
  have x2 : w2.cell? ⟨w.heap.size, 2, none⟩ = some (.bool q.d) := by rw [cell_of_row w2 _ 2 _ 58 (0, 0) hbox]; rfl
  have r0 := hT2.c0
  have f1 := hT2.rows.c1 i' hir
  have f2 := hT2.rows.c2 i' hir
  have z1 := hT2.rows.frozen (i' * 3 + 1)
  have z2 := hT2.rows.frozen (i' * 3 + 2)
  have hne := hT2.ne
  rw [HD.out] at x2
  have hT3 := hT2.setR (i' * 3 + 1) (.slice q.v.a q.v.n q.v.c) _ (set_v R i' hir q.v) (by simp)
  have hl3 : i' < (R.set i' { R[i'] with v := q.v }).length := by simpa using hir
  have hT4 := hT3.setR (i' * 3 + 2) (.int .u64 q.t) _ (set_t _ i' hl3 q.t) (by simp)
  have eR : (R.set i' { R[i'] with v := q.v }).set i' { (R.set i' { R[i'] with v := q.v })[i'] with t := q.t } = R.set i' { k := R[i'].k, v := q.v, t := q.t } := by
    rw [List.set_set]; simp
  rw [eR] at hT4
  have g2 := hT3.rows.c2 i' hl3
  have hgw : gr ≠ w.heap.size := Nat.ne_of_lt HT.out.rows.lt
  have y0 : (w2.setCell ⟨gr, i' * 3 + 1, none⟩ (.slice q.v.a q.v.n q.v.c)).cell? ⟨w.heap.size, 0, none⟩ = some (.slice q.v.a q.v.n q.v.c) := by
    rw [World.cell?_setCell_other _ _ _ _ (by intro e; injection e with e _ _; first | exact hgw e | exact hgw e.symm)]; exact x0
  have y1 : (w2.setCell ⟨gr, i' * 3 + 1, none⟩ (.slice q.v.a q.v.n q.v.c)).cell? ⟨w.heap.size, 1, none⟩ = some (.int .u64 q.t) := by
    rw [World.cell?_setCell_other _ _ _ _ (by intro e; injection e with e _ _; first | exact hgw e | exact hgw e.symm)]; exact x1
  have r3 := hT3.c0
  rw [List.length_set] at r3
  have g2' : (w2.setCell ⟨gr, i' * 3 + 1, none⟩ (.slice q.v.a q.v.n q.v.c)).cell? ⟨gr, i' * 3 + 2, none⟩ = some (.int .u64 R[i'].t) := by
    rw [World.cell?_setCell_other _ _ _ _ (by intro e; injection e with _ e _; omega)]; exact f2
  have hbf : Below B w ((w2.setCell ⟨gr, i' * 3 + 1, none⟩ (.slice q.v.a q.v.n q.v.c)).setCell ⟨gr, i' * 3 + 2, none⟩ (.int .u64 q.t)) := ((hbw2.mono hB).setCell hT2.hgr _).setCell hT2.hgr _
  have hkf : Keeps w ((w2.setCell ⟨gr, i' * 3 + 1, none⟩ (.slice q.v.a q.v.n q.v.c)).setCell ⟨gr, i' * 3 + 2, none⟩ (.int .u64 q.t)) := ((Keeps.of_below hbw2).trans (Keeps.set f1 (fun u => by simp) _)).trans (Keeps.set g2 (fun u => by simp) _)
  have hsf : w.heap.size ≤ ((w2.setCell ⟨gr, i' * 3 + 1, none⟩ (.slice q.v.a q.v.n q.v.c)).setCell ⟨gr, i' * 3 + 2, none⟩ (.int .u64 q.t)).heap.size := by
    have h1 := hbw2.size
    simpa [World.setCell] using h1
  have HF : Hid (Z23 B bt gr (R.set i' { k := R[i'].k, v := q.v, t := q.t }) d M w (.returned (.tuple #[])) ((w2.setCell ⟨gr, i' * 3 + 1, none⟩ (.slice q.v.a q.v.n q.v.c)).setCell ⟨gr, i' * 3 + 2, none⟩ (.int .u64 q.t)).drew) :=
    ⟨rfl, ⟨mv, hT4.blocks rfl rfl (fun _ _ => rfl)⟩, hbf.drew, hkf, hsf⟩
  clear hT2 hbox hT3 hT4 hsz hbw2 hb2 c0 g2 hbf hkf hsf eR hgw hl3
  go_wp2
  go_region
  all_goals go_wp2
  all_goals go_end0
  all_goals exact HF.out

end Go.Proofs.Qxb6617343a
