import Derived.Test.Qxb6617343aRows
import Derived.Test.Qxb6617343aOpen
import Derived.Laws.Cover3
import Derived.WalkKit
import Derived.ProofKit
import Derived.OpenShut
import Derived.ShutString
import Derived.ChangeOld
import Derived.Below
namespace Go.Proofs.Qxb6617343a.fnTableStateChangeScriptNewestWins
open Go.ChangeShapes Go.WideShapes Go.ChangeAt Go.RowKit
set_option linter.unusedVariables false

theorem own : ownKnob Try.prog.godebug = none := by kernel_rfl
theorem laidOut : laidOutB Try.prog = true := by kernel_rfl

section
variable {H : Type} {enc : TypeId × Value → H} {W : World} {held : Bool}
theorem openU {fuel : Nat} {a0 : Option Addr} {len0 cap0 base : Nat} {x : DataW H × List MemPlace} (h : DataW.trod enc Try.prog W base (fun _ => true) held fuel 23 [.slice a0 len0 cap0] = some x) :
    ∃ U : List Int, U.length = len0 ∧ U.length ≤ maxLen ∧ CAt W a0 (U.map (Value.int .u64)) := by
  rcases open_ints (k := .u64) Try.underlying23 Try.underlying27 (by kernel_rfl) h with ⟨hcs, _⟩ | ⟨a, len, cap, zs, hcs, _, hl, hm, hz, _, hr, _⟩
  · simp at hcs
    obtain ⟨rfl, rfl, rfl⟩ := hcs
    exact ⟨[], rfl, by simp, fun h => absurd h (by simp)⟩
  · simp at hcs
    obtain ⟨rfl, rfl, rfl⟩ := hcs
    simp only [if_true] at hz
    refine ⟨zs.take len0, by simp; omega, by simp; omega, fun hp => ?_⟩
    have hpos : 0 < len0 := by simp at hp; omega
    obtain ⟨b, off, spot⟩ := a
    have hspot : spot = none := by simpa [Addr.add] using World.cell?_spot (hr 0 (by omega))
    subst hspot
    refine ⟨b, off, rfl, fun i hi => ?_⟩
    have hi' : i < len0 := by simp at hi; omega
    have h2 := hr i (by omega)
    rw [WideShapes.add_plain] at h2
    have hi2 : i < zs.length := by omega
    rw [h2]; simp [hi2]
theorem openD {fuel : Nat} {a0 : Option Addr} {len0 cap0 base : Nat} {x : DataW H × List MemPlace} (h : DataW.trod enc Try.prog W base (fun _ => true) held fuel 25 [.slice a0 len0 cap0] = some x) :
    ∃ D : List Bool, D.length = len0 ∧ D.length ≤ maxLen ∧ CAt W a0 (D.map Value.bool) := by
  rcases Deep.open_bools Try.underlying25 Try.underlying4 (by kernel_rfl) h with ⟨hcs, _⟩ | ⟨a, len, cap, B, hcs, _, hl, hm, _, hr⟩
  · simp at hcs
    obtain ⟨rfl, rfl, rfl⟩ := hcs
    exact ⟨[], rfl, by simp, fun h => absurd h (by simp)⟩
  · simp at hcs
    obtain ⟨rfl, rfl, rfl⟩ := hcs
    refine ⟨(List.range len0).map B, by simp, by simp; omega, fun hp => ?_⟩
    have hpos : 0 < len0 := by simpa using hp
    obtain ⟨b, off, spot⟩ := a
    have hspot : spot = none := by simpa [Addr.add] using World.cell?_spot (hr 0 (by omega))
    subst hspot
    refine ⟨b, off, rfl, fun i hi => ?_⟩
    have hi' : i < len0 := by simpa using hi
    have h2 := hr i (by omega)
    rw [WideShapes.add_plain] at h2
    rw [h2]; simp
end

set_option maxRecDepth 100000 in
theorem lifted (os : Os) (started : os.Started) (H : Type) (enc : TypeId × Value → H) :
    ReturnsInHanded {} Try.checked os 4 .any (Rows.fnTableStateChangeScriptNewestWinsSpec.pre6 enc Try.prog Try.f4 Rows.fnTableStateChangeScriptNewestWinsRow.domain false) (Rows.fnTableStateChangeScriptNewestWinsSpec.post enc Try.prog Try.f4 false true false false) := by
  refine returnsInHanded_of_change (C := Try.checked) own started (by kernel_rfl) Try.func4
    (ChangeSpec.witness6 (enc := enc) (C := Try.checked) false ⟨#[], #[.slice none 0 0, .slice none 0 0, .slice none 0 0, .bool false, .slice none 0 0, .slice none 0 0, .slice none 0 0, .slice none 0 0], []⟩ 8 (by kernel_rfl) (by kernel_rfl) (by kernel_rfl) (by kernel_rfl)) ?_
  intro W base args ds gs before hval0 hW hcnd _
  have hval : ∀ (j : Nat) t v, Try.f4.params[j]? = some t → args[j]? = some v → Value.okWide Try.prog W .any base t v := hval0
  have hW' := hW
  obtain ⟨p, q, hA0, hV, rfl, hfz, hnd⟩ := hW
  have hA : DataW.TrodAll enc Try.prog W 0 (fun _ => true) true Try.f4.params.toList args.toList ds p := hA0
  rw [Try.params4] at hA hval
  obtain ⟨v0, vs0, d0, ds0, p0, q0, hargs, rfl, rfl, h0, r0⟩ := trodAll_cons hA
  obtain ⟨v1, vs1, d1, ds1, p1, q1, rfl, rfl, rfl, h1, r1⟩ := trodAll_cons r0
  obtain ⟨v2, vs2, d2, ds2, p2, q2, rfl, rfl, rfl, h2, r2⟩ := trodAll_cons r1
  obtain ⟨v3, vs3, d3, ds3, p3, q3, rfl, rfl, rfl, h3, r3⟩ := trodAll_cons r2
  obtain ⟨v4, vs4, d4, ds4, p4, q4, rfl, rfl, rfl, h4, r4⟩ := trodAll_cons r3
  obtain ⟨v5, vs5, d5, ds5, p5, q5, rfl, rfl, rfl, h5, r5⟩ := trodAll_cons r4
  obtain ⟨v6, vs6, d6, ds6, p6, q6, rfl, rfl, rfl, h6, r6⟩ := trodAll_cons r5
  obtain ⟨v7, vs7, d7, ds7, p7, q7, rfl, rfl, rfl, h7, r7⟩ := trodAll_cons r6
  obtain ⟨rfl, rfl, rfl⟩ := trodAll_nil r7
  obtain rfl : args = #[v0, v1, v2, v3, v4, v5, v6, v7] := by cases args; simp_all
  obtain ⟨rfl, rfl⟩ := trodVars_none hV
  obtain ⟨a0, len0, cap0, rfl⟩ := okWide_slice Try.underlying22 (hval 0 22 v0 rfl rfl)
  have k0 := h0
  have lt0 : ∀ x ∈ p0, x.block < W.heap.size := by obtain ⟨m, hm⟩ := k0; exact DataW.trod_lt m _ _ _ hm
  obtain ⟨T0, K0, x0, y0, z0, s0, m0⟩ : ∃ (T : List SL) (K : List OB), T.length = len0 ∧ K.length = T.length ∧ OAt W a0 T ∧ (∀ (i : Nat) (h : i < T.length) (h' : i < K.length), RawV W T[i] K[i]) ∧ ∀ (i : Nat) (h : i < T.length), T[i].n ≤ maxLen := by obtain ⟨fuel, hf⟩ := h0; exact openBB hf
  obtain ⟨a1, len1, cap1, rfl⟩ := okWide_slice Try.underlying22 (hval 1 22 v1 rfl rfl)
  have k1 := h1
  have lt1 : ∀ x ∈ p1, x.block < W.heap.size := by obtain ⟨m, hm⟩ := k1; exact DataW.trod_lt m _ _ _ hm
  obtain ⟨T1, K1, x1, y1, z1, s1, m1⟩ : ∃ (T : List SL) (K : List OB), T.length = len1 ∧ K.length = T.length ∧ OAt W a1 T ∧ (∀ (i : Nat) (h : i < T.length) (h' : i < K.length), RawV W T[i] K[i]) ∧ ∀ (i : Nat) (h : i < T.length), T[i].n ≤ maxLen := by obtain ⟨fuel, hf⟩ := h1; exact openBB hf
  obtain ⟨a2, len2, cap2, rfl⟩ := okWide_slice Try.underlying23 (hval 2 23 v2 rfl rfl)
  have k2 := h2
  have lt2 : ∀ x ∈ p2, x.block < W.heap.size := by obtain ⟨m, hm⟩ := k2; exact DataW.trod_lt m _ _ _ hm
  obtain ⟨U2, x2, m2, z2⟩ : ∃ U : List Int, U.length = len2 ∧ U.length ≤ maxLen ∧ CAt W a2 (U.map (Value.int .u64)) := by obtain ⟨fuel, hf⟩ := h2; exact openU hf
  obtain ⟨b3, rfl, rfl, rfl⟩ := open_bool Try.underlying4 (hval 3 4 v3 rfl rfl) h3
  obtain ⟨a4, len4, cap4, rfl⟩ := okWide_slice Try.underlying22 (hval 4 22 v4 rfl rfl)
  have k4 := h4
  have lt4 : ∀ x ∈ p4, x.block < W.heap.size := by obtain ⟨m, hm⟩ := k4; exact DataW.trod_lt m _ _ _ hm
  obtain ⟨T4, K4, x4, y4, z4, s4, m4⟩ : ∃ (T : List SL) (K : List OB), T.length = len4 ∧ K.length = T.length ∧ OAt W a4 T ∧ (∀ (i : Nat) (h : i < T.length) (h' : i < K.length), RawV W T[i] K[i]) ∧ ∀ (i : Nat) (h : i < T.length), T[i].n ≤ maxLen := by obtain ⟨fuel, hf⟩ := h4; exact openBB hf
  obtain ⟨a5, len5, cap5, rfl⟩ := okWide_slice Try.underlying22 (hval 5 22 v5 rfl rfl)
  have k5 := h5
  have lt5 : ∀ x ∈ p5, x.block < W.heap.size := by obtain ⟨m, hm⟩ := k5; exact DataW.trod_lt m _ _ _ hm
  obtain ⟨T5, K5, x5, y5, z5, s5, m5⟩ : ∃ (T : List SL) (K : List OB), T.length = len5 ∧ K.length = T.length ∧ OAt W a5 T ∧ (∀ (i : Nat) (h : i < T.length) (h' : i < K.length), RawV W T[i] K[i]) ∧ ∀ (i : Nat) (h : i < T.length), T[i].n ≤ maxLen := by obtain ⟨fuel, hf⟩ := h5; exact openBB hf
  obtain ⟨a6, len6, cap6, rfl⟩ := okWide_slice Try.underlying23 (hval 6 23 v6 rfl rfl)
  have k6 := h6
  have lt6 : ∀ x ∈ p6, x.block < W.heap.size := by obtain ⟨m, hm⟩ := k6; exact DataW.trod_lt m _ _ _ hm
  obtain ⟨U6, x6, m6, z6⟩ : ∃ U : List Int, U.length = len6 ∧ U.length ≤ maxLen ∧ CAt W a6 (U.map (Value.int .u64)) := by obtain ⟨fuel, hf⟩ := h6; exact openU hf
  obtain ⟨a7, len7, cap7, rfl⟩ := okWide_slice Try.underlying25 (hval 7 25 v7 rfl rfl)
  have k7 := h7
  have lt7 : ∀ x ∈ p7, x.block < W.heap.size := by obtain ⟨m, hm⟩ := k7; exact DataW.trod_lt m _ _ _ hm
  obtain ⟨D7, x7, m7, z7⟩ : ∃ D : List Bool, D.length = len7 ∧ D.length ≤ maxLen ∧ CAt W a7 (D.map Value.bool) := by obtain ⟨fuel, hf⟩ := h7; exact openD hf
  clear hA0 hval0
  have hmain := main4 { a0 := a0, a1 := a1, a2 := a2, a4 := a4, a5 := a5, a6 := a6, a7 := a7, c0 := cap0, c1 := cap1, c2 := cap2, c4 := cap4, c5 := cap5, c6 := cap6, c7 := cap7, d := b3, n := len0, m := len4, T1 := T0, T2 := T1, T3 := T4, T4 := T5, K := K0, V := K1, SK := K4, SV := K5, U := U2, S := U6, D := D7 } W
    ⟨z0, z1, z4, z5, z2, z6, z7, s0, s1, s4, s5, m0, m1, m4, m5, x0, x4, y0, y1, y4, y5, m2, m6, m7⟩
  simp only [x1, x2, x5, x6, x7] at hmain
  refine hmain.mono fun e W' ⟨he, bel⟩ => ?_
  subst he
  exact ⟨_, rfl, _, _, _, [], _, [], hW', trodAll_mk1 (shut_bool Try.underlying4 _), (trodAll_cons_mk (Below.trod laidOut (by kernel_rfl) (of_decide_eq_true (by kernel_rfl)) k0 bel lt0) (trodAll_cons_mk (Below.trod laidOut (by kernel_rfl) (of_decide_eq_true (by kernel_rfl)) k1 bel lt1) (trodAll_cons_mk (Below.trod laidOut (by kernel_rfl) (of_decide_eq_true (by kernel_rfl)) k2 bel lt2) (trodAll_cons_mk (shut_bool Try.underlying4 _) (trodAll_cons_mk (Below.trod laidOut (by kernel_rfl) (of_decide_eq_true (by kernel_rfl)) k4 bel lt4) (trodAll_cons_mk (Below.trod laidOut (by kernel_rfl) (of_decide_eq_true (by kernel_rfl)) k5 bel lt5) (trodAll_cons_mk (Below.trod laidOut (by kernel_rfl) (of_decide_eq_true (by kernel_rfl)) k6 bel lt6) (trodAll_cons_mk (Below.trod laidOut (by kernel_rfl) (of_decide_eq_true (by kernel_rfl)) k7 bel lt7) trodAll_mk0)))))))), rfl, bel.frame _, fun h => by cases h⟩

theorem over : Rows.fnTableStateChangeScriptNewestWinsRow.holds Try.pinned (OpenSpec.ofChange Rows.fnTableStateChangeScriptNewestWinsSpec) :=
  OpenClaim.holds_of_wide 4 Try.f4 rfl rfl rfl rfl rfl rfl rfl ⟨rfl, rfl, rfl, rfl, rfl⟩ rfl rfl rfl rfl rfl (by kernel_rfl) Try.func4 (by kernel_rfl)
    (of_decide_eq_true (by kernel_rfl)) (by unfold Func.isWrapper; first | (rw [if_pos (by decide +kernel)]; kernel_rfl) | (rw [if_neg (by decide +kernel)]; exact ⟨rfl, rfl⟩))
    (fun os started H enc _ => lifted os started H enc)

/-- THE STATEMENT -/
theorem proved : Rows.FnTableStateChangeScriptNewestWinsSaid := over
end Go.Proofs.Qxb6617343a.fnTableStateChangeScriptNewestWins
