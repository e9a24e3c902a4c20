import Derived.Test.Qxb6617343aBin
import Derived.WideMake
namespace Go.Proofs.Qxb6617343a
open Go.RowKit

/-- a version: value, transaction, deleted -/
structure VR where
  v : SL
  t : Int
  d : Bool
def verV (q : VR) : Value := .agg #[.slice q.v.a q.v.n q.v.c, .int .u64 q.t, .bool q.d]
def sb (k : List UInt8) : ByteArray := ⟨k.toArray⟩
theorem sb_inj (a b : List UInt8) : sb a = sb b ↔ a = b := by
  constructor
  · intro h
    have := congrArg (fun x : ByteArray => x.data.toList) h
    simpa [sb] using this
  · intro h; rw [h]
theorem sb_beq (a b : List UInt8) : (sb a == sb b) = decide (a = b) := by
  show ((sb a).data == (sb b).data) = decide (a = b)
  by_cases h : a = b
  · subst h; simp
  · rw [decide_eq_false h, beq_eq_false_iff_ne]
    intro e
    apply h
    have := congrArg Array.toList e
    simpa [sb] using this

abbrev AM := List (List UInt8 × VR)
/-- the first entry of key k: its place, its version -/
def lookI : AM → List UInt8 → Option (Nat × VR)
  | [], _ => none
  | q :: r, k => if q.1 = k then some (0, q.2) else (lookI r k).map fun x => (x.1 + 1, x.2)
def look (M : AM) (k : List UInt8) : Option VR := (lookI M k).map (·.2)
/-- what 'm[k] = v' makes of the entries -/
def upd : AM → List UInt8 → VR → AM
  | [], k, v => [(k, v)]
  | q :: r, k, v => if q.1 = k then (k, v) :: r else q :: upd r k v

theorem upd_none : ∀ (M : AM) (k : List UInt8) (v : VR), lookI M k = none → upd M k v = M ++ [(k, v)]
  | [], _, _, _ => rfl
  | q :: r, k, v, h => by
    unfold lookI at h
    by_cases e : q.1 = k
    · rw [if_pos e] at h; cases h
    · rw [if_neg e] at h
      unfold upd; rw [if_neg e, upd_none r k v (by simpa using h)]; rfl
theorem upd_some : ∀ (M : AM) (k : List UInt8) (v : VR) (j : Nat) (u : VR), lookI M k = some (j, u) → upd M k v = M.set j (k, v) ∧ (∃ h : j < M.length, M[j].1 = k)
  | [], _, _, _, _, h => by cases h
  | q :: r, k, v, j, u, h => by
    unfold lookI at h
    by_cases e : q.1 = k
    · rw [if_pos e] at h
      injection h with h; injection h with h1 h2
      subst h1
      unfold upd; rw [if_pos e]
      exact ⟨rfl, by simp, e⟩
    · rw [if_neg e] at h
      cases hl : lookI r k with
      | none => rw [hl] at h; cases h
      | some x =>
        rw [hl] at h
        simp only [Option.map_some, Option.some.injEq, Prod.mk.injEq] at h
        obtain ⟨h1, h2⟩ := h
        obtain ⟨e1, h3, e3⟩ := upd_some r k v x.1 x.2 hl
        subst h1
        unfold upd; rw [if_neg e, e1]
        exact ⟨rfl, by simpa using h3, e3⟩

/-- the entries as the memory has them -/
def entE (q : List UInt8 × VR) : Value × Value := (.string (sb q.1), verV q.2)
def MapIs (w : World) (bm : Nat) (M : AM) : Prop := ∃ es clock, w.heap[bm]? = some (.map es clock) ∧ es.toList.map (fun e => (e.key, e.val)) = M.map entE

theorem findNow_is : ∀ (es : List MapEntry) (M : AM) (k : List UInt8) (i : Nat), es.map (fun e => (e.key, e.val)) = M.map entE →
    Instr.findNow .string (.string (sb k)) es i = some ((lookI M k).map fun x => (i + x.1, verV x.2))
  | [], [], _, _, _ => rfl
  | [], _ :: _, _, _, h => by simp at h
  | _ :: _, [], _, _, h => by simp at h
  | e :: es, q :: M, k, i, h => by
    simp only [List.map_cons, List.cons.injEq] at h
    obtain ⟨h1, h2⟩ := h
    have hk : e.key = .string (sb q.1) := congrArg Prod.fst h1
    have hv : e.val = verV q.2 := congrArg Prod.snd h1
    unfold Instr.findNow
    rw [hk]
    show (match some (sb k == sb q.1) with | some true => _ | some false => _ | none => _) = _
    rw [sb_beq]
    unfold lookI
    by_cases he : q.1 = k
    · rw [if_pos he, decide_eq_true he.symm, hv]; rfl
    · rw [if_neg he, decide_eq_false (Ne.symm he)]
      show Instr.findNow .string (.string (sb k)) es (i + 1) = _
      rw [findNow_is es M k (i + 1) h2]
      cases lookI M k with
      | none => rfl
      | some x => simp; omega

theorem lookup_is (w : World) (bm : Nat) (M : AM) (k : List UInt8) (h : MapIs w bm M) :
    (Instr.lookup 54 (.map (some bm)) (.string (sb k)) true).run Try.prog w = .ok (.tuple #[match look M k with | some q => verV q | none => verV ⟨⟨none, 0, 0⟩, 0, false⟩, .bool (look M k).isSome]) w := by
  obtain ⟨es, clock, hb, he⟩ := h
  have hf := findNow_is es.toList M k 0 he
  have hc : (Instr.checkKey es.isEmpty 10000 9 (.string (sb k))).run Try.prog w = .ok () w := MapKept.run_checkKey (k := .string (sb k)) Try.underlying9 (by simp [MapKept.IsKey]) _ 9999
  have hz : (zeroValue 58).run Try.prog w = .ok (verV ⟨⟨none, 0, 0⟩, 0, false⟩) w := by kernel_rfl
  have hfk := MapKept.run_findKey (P := Try.prog) (w := w) Try.underlying9 hf
  unfold look
  cases hl : lookI M k with
  | none =>
    rw [hl] at hfk
    simp only [Option.map_none] at hfk
    simp [Instr.lookup, run_underlying Try.underlying54, MapKept.run_getObj_map hb, hc, hfk, hz, Result.andThen]
  | some x =>
    rw [hl] at hfk
    simp only [Option.map_some] at hfk
    simp [Instr.lookup, run_underlying Try.underlying54, MapKept.run_getObj_map hb, hc, hfk, Result.andThen]

theorem lookup_nil (w : World) (k : List UInt8) :
    (Instr.lookup 54 (.map none) (.string (sb k)) true).run Try.prog w = .ok (.tuple #[verV ⟨⟨none, 0, 0⟩, 0, false⟩, .bool false]) w := by
  have hc : (Instr.checkKey true 10000 9 (.string (sb k))).run Try.prog w = .ok () w := MapKept.run_checkKey (k := .string (sb k)) Try.underlying9 (by simp [MapKept.IsKey]) _ 9999
  have hz : (zeroValue 58).run Try.prog w = .ok (verV ⟨⟨none, 0, 0⟩, 0, false⟩) w := by kernel_rfl
  have hfk := MapKept.run_findKey (P := Try.prog) (w := w) Try.underlying9 (findNow_is [] [] k 0 rfl)
  simp only [lookI, Option.map_none] at hfk
  simp [Instr.lookup, run_underlying Try.underlying54, hc, hfk, hz, Result.andThen]

/-- block bm is written; all else is as it was -/
def setM (w : World) (bm : Nat) (o : Obj) : World := { w with heap := w.heap.setIfInBounds bm o }
theorem update_gen (es : Array MapEntry) (clock : Nat) (M : AM) (k : List UInt8) (q : VR) (he : es.toList.map (fun e => (e.key, e.val)) = M.map entE) :
    ∃ es' c', es'.toList.map (fun e => (e.key, e.val)) = (upd M k q).map entE ∧ ∀ (w : World) (bm : Nat), w.heap[bm]? = some (.map es clock) →
      (Instr.mapUpdate 54 (.map (some bm)) (.string (sb k)) (verV q)).run Try.prog w = .ok () (setM w bm (.map es' c')) := by
  have hf := findNow_is es.toList M k 0 he
  have hc : ∀ w, (Instr.checkKey false 10000 9 (.string (sb k))).run Try.prog w = .ok () w := fun w => MapKept.run_checkKey (k := .string (sb k)) Try.underlying9 (by simp [MapKept.IsKey]) _ 9999
  have hfk := fun w => MapKept.run_findKey (P := Try.prog) (w := w) Try.underlying9 hf
  cases hl : lookI M k with
  | none =>
    rw [hl] at hfk
    simp only [Option.map_none] at hfk
    refine ⟨es.push { key := .string (sb k), val := verV q, born := clock }, clock + 1, ?_, fun w bm hb => ?_⟩
    · rw [upd_none M k q hl]
      simp [he, entE]
    · simp [Instr.mapUpdate, run_underlying Try.underlying54, MapKept.run_getObj_map hb, hc, hfk, MapKept.run_setObj_map _ hb, Result.andThen, setM]
  | some x =>
    obtain ⟨j, u⟩ := x
    obtain ⟨hu, hj, hk⟩ := upd_some M k q j u hl
    rw [hl] at hfk
    simp only [Option.map_some, Nat.zero_add] at hfk
    have hlen : es.size = M.length := by
      have := congrArg List.length he
      simpa using this
    have hjs : j < es.size := by omega
    have hkey : ((es[j]?).map (·.key)).getD (.string (sb k)) = .string (sb k) := by
      have h1 := congrArg (fun l => (l[j]?).map Prod.fst) he
      simp only [List.getElem?_map] at h1
      have h2 : M[j]? = some M[j] := List.getElem?_eq_getElem hj
      rw [h2] at h1
      have h3 : es.toList[j]? = some es[j] := by simp [hjs]
      rw [h3] at h1
      simp only [Option.map_some, Option.some.injEq, entE] at h1
      rw [hk] at h1
      simp [hjs, h1]
    have hstay : ∀ w, (Instr.keyThatStays (.string (sb k)) (.string (sb k))).run Try.prog w = .ok (.string (sb k)) w := by
      intro w
      have : Instr.sameBits 10000 (.string (sb k)) (.string (sb k)) = true := by
        unfold Instr.sameBits
        rw [sb_beq]; simp
      unfold Instr.keyThatStays
      rw [this]; rfl
    refine ⟨es.modify j fun e => { e with key := .string (sb k), val := verV q }, clock, ?_, fun w bm hb => ?_⟩
    · rw [hu]
      apply List.ext_getElem?
      intro i
      have h1 := congrArg (fun l => l[i]?) he
      simp only [List.getElem?_map] at h1 ⊢
      by_cases hij : i = j
      · subst hij
        simp [hjs, hj, entE]
      · rw [List.getElem?_set_ne (Ne.symm hij), ← h1]
        simp [Ne.symm hij]
    · simp [Instr.mapUpdate, run_underlying Try.underlying54, MapKept.run_getObj_map hb, hc, hfk, hkey, hstay, MapKept.run_setObj_map _ hb, Result.andThen, setM]
theorem update_is (w : World) (bm : Nat) (M : AM) (k : List UInt8) (q : VR) (h : MapIs w bm M) :
    ∃ o, (Instr.mapUpdate 54 (.map (some bm)) (.string (sb k)) (verV q)).run Try.prog w = .ok () (setM w bm o) ∧ MapIs (setM w bm o) bm (upd M k q) := by
  obtain ⟨es, clock, hb, he⟩ := h
  obtain ⟨es', c', he', hr⟩ := update_gen es clock M k q he
  exact ⟨.map es' c', hr w bm hb, es', c', (MapKept.heap_set hb).1, he'⟩
theorem setM_other (w : World) (bm : Nat) (o : Obj) (i : Nat) (h : i ≠ bm) : (setM w bm o).heap[i]? = w.heap[i]? := by
  simp [setM, Ne.symm h]
theorem setM_size (w : World) (bm : Nat) (o : Obj) : (setM w bm o).heap.size = w.heap.size := by simp [setM]
end Go.Proofs.Qxb6617343a
